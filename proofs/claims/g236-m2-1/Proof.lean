import JvmDerived
import JvmDerived.Pilot.@@N@@Statement
import JvmDerived.Pilot.@@N@@Code
set_option linter.unusedVariables false
set_option linter.unusedSimpArgs false
namespace Jvm.OwnGo
open Sem ClassFile Op Lib Jvm.Stand Jvm.Free Jvm.LawKit Jvm.RoadKit Jvm.Free.Fl
/-- from S the run comes to an end of which P speaks -/
def Go (p : Program) (e : Env) (below : List Frame) (P : Outcome → State → Prop) (S : State) : Prop := ∃ s₂ o, Steps p.tables e below S s₂ ∧ s₂.status = .running ∧ Ended s₂ below o ∧ P o s₂
/-- what a body's end says -/
def EndsAt (s : State) (Q : Option Value → Heap → List Loc → Prop) (rm : Room) : Outcome → State → Prop := fun o U' => ∃ v L, o = .returned v ∧ Q v U'.heap L ∧ FrameEnd s o U' L rm.cells rm.slots
/-- a body's contract -/
def Ct (l : Launch) (Z : State) (y : MethodName) (bytes : ByteArray) (ml : Nat) (ret : Option FieldType) (ws : List Jvm.Cond) (rm : Room) (as : Array Value) (h0 : Heap) (Q : Option Value → Heap → List Loc → Prop) : Prop :=
  MetFree l y (head1 (Jvm.Cond.code y bytes ml ret :: ws) rm) (fun a U => a = as ∧ Z.Warmed39 U.vm ∧ U.heap = h0) (fun _ _ _ _ _ => True) (fun _ U o U' => EndsAt U Q rm o U')
section Steps1
variable {p : Program} {l : Launch} {e : Env} {R : Room} {s : State} {m : MethodId} {args : Array Value} {below : List Frame} {meth : Method} {c : Code} {T : State} {locs : List Loc} {cells slots : Nat} {P : Outcome → State → Prop} {pc : Nat} {L L' : Array Slot} {st : List Value} {Z : State} {h h' : Heap} {a0 : Array Value} {rm : Room} {Q : Option Value → Heap → List Loc → Prop}
theorem Go.via {S S' : State} (k : ∀ t, Steps p.tables e below S' t → Steps p.tables e below S t) (g : Go p e below P S') : Go p e below P S := by
  obtain ⟨s2, o, h1, h2⟩ := g; exact ⟨s2, o, k _ h1, h2⟩
theorem Go.tr {S S' : State} (k : Steps p.tables e below S S') (g : Go p e below P S') : Go p e below P S := by
  obtain ⟨s2, o, h1, h2⟩ := g; exact ⟨s2, o, k.trans h1, h2⟩
theorem Ct.intro {y : MethodName} {bytes : ByteArray} {ml : Nat} {ret : Option FieldType} {ws : List Jvm.Cond} {as : Array Value} {h0 : Heap} (hpn : plainFor y = true) (L0 : Array Slot) (hef : ∀ m, entryFrame m as ml = mkF m 0 L0 [])
    (k : ∀ (p : Program) (e : Env) (s : State) (m : MethodId) (below : List Frame) (meth : Method) (c : Code) (T : State), Stand p l e rm s m as below meth c T [] 0 0 → p.tables.exec = Jvm.exec → Z.Warmed39 s.vm → c.code = bytes → c.maxLocals = ml → s.vm.findClass y.cls = some m.cls → meth.name = y.name → meth.sig.returnType = ret → meth.locks = false → T.heap = h0 → Go p e below (EndsAt s Q rm) (T.setTop (mkF m 0 L0 []))) :
    Ct l Z y bytes ml ret ws rm as h0 Q := by
  refine MetFree.of_bodySF hpn hisR ?_
  intro p e s m args below meth c s₁ Bd hml0 hP hK
  obtain ⟨rfl, hZ, hh⟩ := hP
  obtain ⟨s2, o, h1, h2, h3, h4⟩ := k p e s m below meth c s₁ (Stand.of_body Bd) Bd.exec hZ Bd.bytes hml0 (findClass_of_methodNamed Bd.named) (name_of_methodNamed Bd.named Bd.method).1 Bd.returns (BodyLoose.notSynchronized Bd) (by rw [← hh, Bd.state]; rfl)
  exact ⟨s2, o, castTop (hef m) h1, h2, h3, h4⟩
theorem retW (X : Stand p l e R s m args below meth c T locs cells slots) (hx : p.tables.exec = Jvm.exec) (hlk : meth.locks = false) {w : Value} {t : FieldType} {i : Instr} {rest : List Value} (hret : meth.sig.returnType = some t) (hn : narrow t w = w)
    (hi : (i = .ireturn ∧ (t = .int ∨ t = .boolean ∨ t = .byte ∨ t = .char ∨ t = .short) ∧ ∃ z, w = .int z) ∨ (i = .lreturn ∧ t = .long ∧ ∃ z, w = .long z) ∨ (i = .dreturn ∧ t = .double ∧ ∃ z, w = .double z) ∨ (i = .freturn ∧ t = .float ∧ ∃ z, w = .float z) ∨ (i = .areturn ∧ t.isReference = true ∧ w.isRef = true))
    (hd : decode c.code pc = .ok (i, 1)) (eT : T.heap = h) (hq : Q (some w) h locs) (hc : cells ≤ rm.cells) (hs : slots ≤ rm.slots) : Go p e below (EndsAt s Q rm) (T.setTop (mkF m pc L (w :: rest))) := by
  obtain ⟨fs, hr, hrun, hended, hW, hsame⟩ := X.leave (v := some w) (fun q => by rw [hret] at q; cases q) hlk
  refine ⟨_, _, retOut X hx hret hn hi hd hr, hrun, hended, _, _, rfl, ?_, ⟨_, rfl⟩, hW, hsame.mono hc hs⟩
  show Q (some w) T.heap locs
  rw [eT]; exact hq
theorem retI (X : Stand p l e R s m args below meth c T locs cells slots) (hx : p.tables.exec = Jvm.exec) (hlk : meth.locks = false) {z : Int32} {rest : List Value} (hret : meth.sig.returnType = some .int) (hd : decode c.code pc = .ok (.ireturn, 1)) (eT : T.heap = h) (hq : Q (some (.int z)) h locs) (hc : cells ≤ rm.cells) (hs : slots ≤ rm.slots) : Go p e below (EndsAt s Q rm) (T.setTop (mkF m pc L (.int z :: rest))) :=
  retW X hx hlk hret rfl (Or.inl ⟨rfl, Or.inl rfl, z, rfl⟩) hd eT hq hc hs
theorem retZ (X : Stand p l e R s m args below meth c T locs cells slots) (hx : p.tables.exec = Jvm.exec) (hlk : meth.locks = false) {z : Int32} {rest : List Value} (hret : meth.sig.returnType = some .boolean) (hd : decode c.code pc = .ok (.ireturn, 1)) (hn : narrow .boolean (.int z) = .int z) (eT : T.heap = h) (hq : Q (some (.int z)) h locs) (hc : cells ≤ rm.cells) (hs : slots ≤ rm.slots) : Go p e below (EndsAt s Q rm) (T.setTop (mkF m pc L (.int z :: rest))) :=
  retW X hx hlk hret hn (Or.inl ⟨rfl, Or.inr (Or.inl rfl), z, rfl⟩) hd eT hq hc hs
theorem retJ (X : Stand p l e R s m args below meth c T locs cells slots) (hx : p.tables.exec = Jvm.exec) (hlk : meth.locks = false) {z : Int64} {rest : List Value} (hret : meth.sig.returnType = some .long) (hd : decode c.code pc = .ok (.lreturn, 1)) (eT : T.heap = h) (hq : Q (some (.long z)) h locs) (hc : cells ≤ rm.cells) (hs : slots ≤ rm.slots) : Go p e below (EndsAt s Q rm) (T.setTop (mkF m pc L (.long z :: rest))) :=
  retW X hx hlk hret rfl (Or.inr (Or.inl ⟨rfl, rfl, z, rfl⟩)) hd eT hq hc hs
theorem retD (X : Stand p l e R s m args below meth c T locs cells slots) (hx : p.tables.exec = Jvm.exec) (hlk : meth.locks = false) {z : UInt64} {rest : List Value} (hret : meth.sig.returnType = some .double) (hd : decode c.code pc = .ok (.dreturn, 1)) (eT : T.heap = h) (hq : Q (some (.double z)) h locs) (hc : cells ≤ rm.cells) (hs : slots ≤ rm.slots) : Go p e below (EndsAt s Q rm) (T.setTop (mkF m pc L (.double z :: rest))) :=
  retW X hx hlk hret rfl (Or.inr (Or.inr (Or.inl ⟨rfl, rfl, z, rfl⟩))) hd eT hq hc hs
theorem retA (X : Stand p l e R s m args below meth c T locs cells slots) (hx : p.tables.exec = Jvm.exec) (hlk : meth.locks = false) {t : FieldType} {z : Addr} {rest : List Value} (hret : meth.sig.returnType = some t) (ht : t.isReference = true) (hn : narrow t (.ref z) = .ref z) (hd : decode c.code pc = .ok (.areturn, 1)) (eT : T.heap = h) (hq : Q (some (.ref z)) h locs) (hc : cells ≤ rm.cells) (hs : slots ≤ rm.slots) : Go p e below (EndsAt s Q rm) (T.setTop (mkF m pc L (.ref z :: rest))) :=
  retW X hx hlk hret hn (Or.inr (Or.inr (Or.inr (Or.inr ⟨rfl, ht, rfl⟩)))) hd eT hq hc hs
theorem retV (X : Stand p l e R s m args below meth c T locs cells slots) (hx : p.tables.exec = Jvm.exec) (hlk : meth.locks = false) (hret : meth.sig.returnType = none) (hd : decode c.code pc = .ok (.return_, 1)) (eT : T.heap = h) (hq : Q none h locs) (hc : cells ≤ rm.cells) (hs : slots ≤ rm.slots) : Go p e below (EndsAt s Q rm) (T.setTop (mkF m pc L [])) := by
  obtain ⟨fs, hr, hrun, hended, hW, hsame⟩ := X.leave (v := none) (fun _ => rfl) hlk
  refine ⟨_, _, X.returnOut hx hret hd hr, hrun, hended, _, _, rfl, ?_, ⟨_, rfl⟩, hW, hsame.mono hc hs⟩
  show Q none T.heap locs
  rw [eT]; exact hq
theorem s_iload (X : Stand p l e R s m args below meth c T locs cells slots) (hx : p.tables.exec = Jvm.exec) {k : Nat} {v : Int32} (hd : decode c.code pc = .ok (.iload k, 2)) (hl : L[k]? = some (.val (.int v))) (pc' : Nat) (hp : pc + 2 = pc') (g : Go p e below P (T.setTop (mkF m pc' L (.int v :: st)))) : Go p e below P (T.setTop (mkF m pc L (st))) := by
  subst hp; exact Go.via (fun _ k => XS.iload X.here hx rfl hd hl k) g
theorem s_iloadN (X : Stand p l e R s m args below meth c T locs cells slots) (hx : p.tables.exec = Jvm.exec) {k : Fin 4} {v : Int32} (hd : decode c.code pc = .ok (.iload_n k, 1)) (hl : L[k.val]? = some (.val (.int v))) (pc' : Nat) (hp : pc + 1 = pc') (g : Go p e below P (T.setTop (mkF m pc' L (.int v :: st)))) : Go p e below P (T.setTop (mkF m pc L (st))) := by
  subst hp; exact Go.via (fun _ k => XS.iloadN X.here hx rfl hd hl k) g
theorem s_istore (X : Stand p l e R s m args below meth c T locs cells slots) (hx : p.tables.exec = Jvm.exec) {k : Nat} {v : Int32} (hd : decode c.code pc = .ok (.istore k, 2)) (L' : Array Slot) (hl : storeLocals L k (.int v) = some L') (pc' : Nat) (hp : pc + 2 = pc') (g : Go p e below P (T.setTop (mkF m pc' L' (st)))) : Go p e below P (T.setTop (mkF m pc L (.int v :: st))) := by
  subst hp; exact Go.via (fun _ k => XS.istore X.here hx rfl hd rfl hl k) g
theorem s_istoreN (X : Stand p l e R s m args below meth c T locs cells slots) (hx : p.tables.exec = Jvm.exec) {k : Fin 4} {v : Int32} (hd : decode c.code pc = .ok (.istore_n k, 1)) (L' : Array Slot) (hl : storeLocals L k.val (.int v) = some L') (pc' : Nat) (hp : pc + 1 = pc') (g : Go p e below P (T.setTop (mkF m pc' L' (st)))) : Go p e below P (T.setTop (mkF m pc L (.int v :: st))) := by
  subst hp; exact Go.via (fun _ k => XS.istoreN X.here hx rfl hd rfl hl k) g
theorem s_lload (X : Stand p l e R s m args below meth c T locs cells slots) (hx : p.tables.exec = Jvm.exec) {k : Nat} {v : Int64} (hd : decode c.code pc = .ok (.lload k, 2)) (hl : L[k]? = some (.val (.long v))) (pc' : Nat) (hp : pc + 2 = pc') (g : Go p e below P (T.setTop (mkF m pc' L (.long v :: st)))) : Go p e below P (T.setTop (mkF m pc L (st))) := by
  subst hp; exact Go.via (fun _ k => XT.lload X.here hx rfl hd hl k) g
theorem s_lloadN (X : Stand p l e R s m args below meth c T locs cells slots) (hx : p.tables.exec = Jvm.exec) {k : Fin 4} {v : Int64} (hd : decode c.code pc = .ok (.lload_n k, 1)) (hl : L[k.val]? = some (.val (.long v))) (pc' : Nat) (hp : pc + 1 = pc') (g : Go p e below P (T.setTop (mkF m pc' L (.long v :: st)))) : Go p e below P (T.setTop (mkF m pc L (st))) := by
  subst hp; exact Go.via (fun _ k => XT.lloadN X.here hx rfl hd hl k) g
theorem s_lstore (X : Stand p l e R s m args below meth c T locs cells slots) (hx : p.tables.exec = Jvm.exec) {k : Nat} {v : Int64} (hd : decode c.code pc = .ok (.lstore k, 2)) (L' : Array Slot) (hl : storeLocals L k (.long v) = some L') (pc' : Nat) (hp : pc + 2 = pc') (g : Go p e below P (T.setTop (mkF m pc' L' (st)))) : Go p e below P (T.setTop (mkF m pc L (.long v :: st))) := by
  subst hp; exact Go.via (fun _ k => XT.lstore X.here hx rfl hd rfl hl k) g
theorem s_lstoreN (X : Stand p l e R s m args below meth c T locs cells slots) (hx : p.tables.exec = Jvm.exec) {k : Fin 4} {v : Int64} (hd : decode c.code pc = .ok (.lstore_n k, 1)) (L' : Array Slot) (hl : storeLocals L k.val (.long v) = some L') (pc' : Nat) (hp : pc + 1 = pc') (g : Go p e below P (T.setTop (mkF m pc' L' (st)))) : Go p e below P (T.setTop (mkF m pc L (.long v :: st))) := by
  subst hp; exact Go.via (fun _ k => XT.lstoreN X.here hx rfl hd rfl hl k) g
theorem s_dload (X : Stand p l e R s m args below meth c T locs cells slots) (hx : p.tables.exec = Jvm.exec) {k : Nat} {v : UInt64} (hd : decode c.code pc = .ok (.dload k, 2)) (hl : L[k]? = some (.val (.double v))) (pc' : Nat) (hp : pc + 2 = pc') (g : Go p e below P (T.setTop (mkF m pc' L (.double v :: st)))) : Go p e below P (T.setTop (mkF m pc L (st))) := by
  subst hp; exact Go.via (fun _ k => XS.dload X.here hx rfl hd hl k) g
theorem s_dloadN (X : Stand p l e R s m args below meth c T locs cells slots) (hx : p.tables.exec = Jvm.exec) {k : Fin 4} {v : UInt64} (hd : decode c.code pc = .ok (.dload_n k, 1)) (hl : L[k.val]? = some (.val (.double v))) (pc' : Nat) (hp : pc + 1 = pc') (g : Go p e below P (T.setTop (mkF m pc' L (.double v :: st)))) : Go p e below P (T.setTop (mkF m pc L (st))) := by
  subst hp; exact Go.via (fun _ k => XS.dloadN X.here hx rfl hd hl k) g
theorem s_dstore (X : Stand p l e R s m args below meth c T locs cells slots) (hx : p.tables.exec = Jvm.exec) {k : Nat} {v : UInt64} (hd : decode c.code pc = .ok (.dstore k, 2)) (L' : Array Slot) (hl : storeLocals L k (.double v) = some L') (pc' : Nat) (hp : pc + 2 = pc') (g : Go p e below P (T.setTop (mkF m pc' L' (st)))) : Go p e below P (T.setTop (mkF m pc L (.double v :: st))) := by
  subst hp; exact Go.via (fun _ k => XS.dstore X.here hx rfl hd rfl hl k) g
theorem s_dstoreN (X : Stand p l e R s m args below meth c T locs cells slots) (hx : p.tables.exec = Jvm.exec) {k : Fin 4} {v : UInt64} (hd : decode c.code pc = .ok (.dstore_n k, 1)) (L' : Array Slot) (hl : storeLocals L k.val (.double v) = some L') (pc' : Nat) (hp : pc + 1 = pc') (g : Go p e below P (T.setTop (mkF m pc' L' (st)))) : Go p e below P (T.setTop (mkF m pc L (.double v :: st))) := by
  subst hp; exact Go.via (fun _ k => XS.dstoreN X.here hx rfl hd rfl hl k) g
theorem s_aload (X : Stand p l e R s m args below meth c T locs cells slots) (hx : p.tables.exec = Jvm.exec) {k : Nat} {v : Value} (hd : decode c.code pc = .ok (.aload k, 2)) (hl : L[k]? = some (.val v)) (hv : v.isRef = true) (pc' : Nat) (hp : pc + 2 = pc') (g : Go p e below P (T.setTop (mkF m pc' L (v :: st)))) : Go p e below P (T.setTop (mkF m pc L (st))) := by
  subst hp; exact Go.via (fun _ k => XS.aload X.here hx rfl hd hl hv k) g
theorem s_aloadN (X : Stand p l e R s m args below meth c T locs cells slots) (hx : p.tables.exec = Jvm.exec) {k : Fin 4} {v : Value} (hd : decode c.code pc = .ok (.aload_n k, 1)) (hl : L[k.val]? = some (.val v)) (hv : v.isRef = true) (pc' : Nat) (hp : pc + 1 = pc') (g : Go p e below P (T.setTop (mkF m pc' L (v :: st)))) : Go p e below P (T.setTop (mkF m pc L (st))) := by
  subst hp; exact Go.via (fun _ k => XS.aloadN X.here hx rfl hd hl hv k) g
theorem s_astore (X : Stand p l e R s m args below meth c T locs cells slots) (hx : p.tables.exec = Jvm.exec) {k : Nat} {v : Value} (hd : decode c.code pc = .ok (.astore k, 2)) (hv : v.isRef = true) (L' : Array Slot) (hl : storeLocals L k v = some L') (pc' : Nat) (hp : pc + 2 = pc') (g : Go p e below P (T.setTop (mkF m pc' L' (st)))) : Go p e below P (T.setTop (mkF m pc L (v :: st))) := by
  subst hp; exact Go.via (fun _ k => XS.astore X.here hx rfl hd rfl hv hl k) g
theorem s_astoreN (X : Stand p l e R s m args below meth c T locs cells slots) (hx : p.tables.exec = Jvm.exec) {k : Fin 4} {v : Value} (hd : decode c.code pc = .ok (.astore_n k, 1)) (hv : v.isRef = true) (L' : Array Slot) (hl : storeLocals L k.val v = some L') (pc' : Nat) (hp : pc + 1 = pc') (g : Go p e below P (T.setTop (mkF m pc' L' (st)))) : Go p e below P (T.setTop (mkF m pc L (v :: st))) := by
  subst hp; exact Go.via (fun _ k => XS.astoreN X.here hx rfl hd rfl hv hl k) g
theorem s_iconst (X : Stand p l e R s m args below meth c T locs cells slots) (hx : p.tables.exec = Jvm.exec) {i : Int} (hd : decode c.code pc = .ok (.iconst i, 1)) (v : Int32) (hv : Int32.ofInt i = v) (pc' : Nat) (hp : pc + 1 = pc') (g : Go p e below P (T.setTop (mkF m pc' L (.int v :: st)))) : Go p e below P (T.setTop (mkF m pc L (st))) := by
  subst hp hv; exact Go.via (fun _ k => XS.iconst X.here hx rfl hd k) g
theorem s_bipush (X : Stand p l e R s m args below meth c T locs cells slots) (hx : p.tables.exec = Jvm.exec) {i : Int} (hd : decode c.code pc = .ok (.bipush i, 2)) (v : Int32) (hv : (Int8.ofInt i).toInt32 = v) (pc' : Nat) (hp : pc + 2 = pc') (g : Go p e below P (T.setTop (mkF m pc' L (.int v :: st)))) : Go p e below P (T.setTop (mkF m pc L (st))) := by
  subst hp hv; exact Go.via (fun _ k => XS.bipush X.here hx rfl hd k) g
theorem s_sipush (X : Stand p l e R s m args below meth c T locs cells slots) (hx : p.tables.exec = Jvm.exec) {i : Int} (hd : decode c.code pc = .ok (.sipush i, 3)) (v : Int32) (hv : (Int16.ofInt i).toInt32 = v) (pc' : Nat) (hp : pc + 3 = pc') (g : Go p e below P (T.setTop (mkF m pc' L (.int v :: st)))) : Go p e below P (T.setTop (mkF m pc L (st))) := by
  subst hp hv; exact Go.via (fun _ k => XS.sipush X.here hx rfl hd k) g
theorem s_lconst (X : Stand p l e R s m args below meth c T locs cells slots) (hx : p.tables.exec = Jvm.exec) {i : Fin 2} (hd : decode c.code pc = .ok (.lconst i, 1)) (v : Int64) (hv : Int64.ofNat i = v) (pc' : Nat) (hp : pc + 1 = pc') (g : Go p e below P (T.setTop (mkF m pc' L (.long v :: st)))) : Go p e below P (T.setTop (mkF m pc L (st))) := by
  subst hp; exact Go.via (fun _ k => XT.lconstV X.here hx rfl v hd hv k) g
theorem s_null (X : Stand p l e R s m args below meth c T locs cells slots) (hx : p.tables.exec = Jvm.exec)  (hd : decode c.code pc = .ok (.aconst_null, 1))  (pc' : Nat) (hp : pc + 1 = pc') (g : Go p e below P (T.setTop (mkF m pc' L (.null :: st)))) : Go p e below P (T.setTop (mkF m pc L (st))) := by
  subst hp; exact Go.via (fun _ k => XS.aconstNull X.here hx rfl hd k) g
theorem s_dconst0 (X : Stand p l e R s m args below meth c T locs cells slots) (hx : p.tables.exec = Jvm.exec)  (hd : decode c.code pc = .ok (.dconst 0, 1)) (v : UInt64) (hv : FP.dconst0 = v) (pc' : Nat) (hp : pc + 1 = pc') (g : Go p e below P (T.setTop (mkF m pc' L (.double v :: st)))) : Go p e below P (T.setTop (mkF m pc L (st))) := by
  subst hp; exact Go.via (fun _ k => XS.dconst0 X.here hx rfl hd hv k) g
theorem s_dconst1 (X : Stand p l e R s m args below meth c T locs cells slots) (hx : p.tables.exec = Jvm.exec)  (hd : decode c.code pc = .ok (.dconst 1, 1)) (v : UInt64) (hv : FP.dconst1 = v) (pc' : Nat) (hp : pc + 1 = pc') (g : Go p e below P (T.setTop (mkF m pc' L (.double v :: st)))) : Go p e below P (T.setTop (mkF m pc L (st))) := by
  subst hp; exact Go.via (fun _ k => XS.dconst1 X.here hx rfl hd hv k) g
theorem s_ldcI (X : Stand p l e R s m args below meth c T locs cells slots) (hx : p.tables.exec = Jvm.exec) {i : Nat} {v : Int32} (hd : decode c.code pc = .ok (.ldc i, 2)) (hZ : Z.Warmed39 s.vm) {own : String} (hown : s.vm.findClass own = some m.cls) (w : (Cond.constant own i v).before a0 Z = true) (pc' : Nat) (hp : pc + 2 = pc') (g : Go p e below P (T.setTop (mkF m pc' L (.int v :: st)))) : Go p e below P (T.setTop (mkF m pc L (st))) := by
  subst hp; exact Go.via (fun _ k => X.ldcI hx hown (mvT hZ w) rfl hd k) g
theorem s_ldc2J (X : Stand p l e R s m args below meth c T locs cells slots) (hx : p.tables.exec = Jvm.exec) {i : Nat} {v : Int64} (hd : decode c.code pc = .ok (.ldc2_w i, 3)) (hZ : Z.Warmed39 s.vm) {own : String} (hown : s.vm.findClass own = some m.cls) (w : (Cond.constantLong own i v).before a0 Z = true) (pc' : Nat) (hp : pc + 3 = pc') (g : Go p e below P (T.setTop (mkF m pc' L (.long v :: st)))) : Go p e below P (T.setTop (mkF m pc L (st))) := by
  subst hp; exact Go.via (fun _ k => X.ldc2J hx hown (mvT hZ w) rfl hd k) g
theorem s_ldc2D (X : Stand p l e R s m args below meth c T locs cells slots) (hx : p.tables.exec = Jvm.exec) {i : Nat} {v : UInt64} (hd : decode c.code pc = .ok (.ldc2_w i, 3)) (hZ : Z.Warmed39 s.vm) {own : String} (hown : s.vm.findClass own = some m.cls) (w : (Cond.constantDouble own i v).before a0 Z = true) (pc' : Nat) (hp : pc + 3 = pc') (g : Go p e below P (T.setTop (mkF m pc' L (.double v :: st)))) : Go p e below P (T.setTop (mkF m pc L (st))) := by
  subst hp; exact Go.via (fun _ k => X.ldc2DoubleC hx hown (mvT hZ w) (g := mkF m pc L st) rfl hd _ k) g
theorem s_iadd (X : Stand p l e R s m args below meth c T locs cells slots) (hx : p.tables.exec = Jvm.exec) {x y : Int32} (hd : decode c.code pc = .ok (.iadd, 1)) (v : Int32) (hv : x + y = v) (pc' : Nat) (hp : pc + 1 = pc') (g : Go p e below P (T.setTop (mkF m pc' L (.int v :: st)))) : Go p e below P (T.setTop (mkF m pc L (.int y :: .int x :: st))) := by
  subst hp hv; exact Go.via (fun _ k => XS.iadd X.here hx rfl hd rfl k) g
theorem s_isub (X : Stand p l e R s m args below meth c T locs cells slots) (hx : p.tables.exec = Jvm.exec) {x y : Int32} (hd : decode c.code pc = .ok (.isub, 1)) (v : Int32) (hv : x - y = v) (pc' : Nat) (hp : pc + 1 = pc') (g : Go p e below P (T.setTop (mkF m pc' L (.int v :: st)))) : Go p e below P (T.setTop (mkF m pc L (.int y :: .int x :: st))) := by
  subst hp hv; exact Go.via (fun _ k => XS.isub X.here hx rfl hd rfl k) g
theorem s_imul (X : Stand p l e R s m args below meth c T locs cells slots) (hx : p.tables.exec = Jvm.exec) {x y : Int32} (hd : decode c.code pc = .ok (.imul, 1)) (v : Int32) (hv : x * y = v) (pc' : Nat) (hp : pc + 1 = pc') (g : Go p e below P (T.setTop (mkF m pc' L (.int v :: st)))) : Go p e below P (T.setTop (mkF m pc L (.int y :: .int x :: st))) := by
  subst hp hv; exact Go.via (fun _ k => XS.imul X.here hx rfl hd rfl k) g
theorem s_iand (X : Stand p l e R s m args below meth c T locs cells slots) (hx : p.tables.exec = Jvm.exec) {x y : Int32} (hd : decode c.code pc = .ok (.iand, 1)) (v : Int32) (hv : x &&& y = v) (pc' : Nat) (hp : pc + 1 = pc') (g : Go p e below P (T.setTop (mkF m pc' L (.int v :: st)))) : Go p e below P (T.setTop (mkF m pc L (.int y :: .int x :: st))) := by
  subst hp hv; exact Go.via (fun _ k => XS.iand X.here hx rfl hd rfl k) g
theorem s_ixor (X : Stand p l e R s m args below meth c T locs cells slots) (hx : p.tables.exec = Jvm.exec) {x y : Int32} (hd : decode c.code pc = .ok (.ixor, 1)) (v : Int32) (hv : x ^^^ y = v) (pc' : Nat) (hp : pc + 1 = pc') (g : Go p e below P (T.setTop (mkF m pc' L (.int v :: st)))) : Go p e below P (T.setTop (mkF m pc L (.int y :: .int x :: st))) := by
  subst hp hv; exact Go.via (fun _ k => XT.ixor X.here hx rfl hd rfl k) g
theorem s_ior (X : Stand p l e R s m args below meth c T locs cells slots) (hx : p.tables.exec = Jvm.exec) {x y : Int32} (hd : decode c.code pc = .ok (.ior, 1)) (v : Int32) (hv : x ||| y = v) (pc' : Nat) (hp : pc + 1 = pc') (g : Go p e below P (T.setTop (mkF m pc' L (.int v :: st)))) : Go p e below P (T.setTop (mkF m pc L (.int y :: .int x :: st))) := by
  subst hp hv; exact Go.via (fun _ k => XT.ior X.here hx rfl hd rfl k) g
theorem s_ishl (X : Stand p l e R s m args below meth c T locs cells slots) (hx : p.tables.exec = Jvm.exec) {x y : Int32} (hd : decode c.code pc = .ok (.ishl, 1)) (v : Int32) (hv : x <<< (y &&& 31) = v) (pc' : Nat) (hp : pc + 1 = pc') (g : Go p e below P (T.setTop (mkF m pc' L (.int v :: st)))) : Go p e below P (T.setTop (mkF m pc L (.int y :: .int x :: st))) := by
  subst hp hv; exact Go.via (fun _ k => XT.ishl X.here hx rfl hd rfl k) g
theorem s_ishr (X : Stand p l e R s m args below meth c T locs cells slots) (hx : p.tables.exec = Jvm.exec) {x y : Int32} (hd : decode c.code pc = .ok (.ishr, 1)) (v : Int32) (hv : x >>> (y &&& 31) = v) (pc' : Nat) (hp : pc + 1 = pc') (g : Go p e below P (T.setTop (mkF m pc' L (.int v :: st)))) : Go p e below P (T.setTop (mkF m pc L (.int y :: .int x :: st))) := by
  subst hp hv; exact Go.via (fun _ k => XT.ishr X.here hx rfl hd rfl k) g
theorem s_iushr (X : Stand p l e R s m args below meth c T locs cells slots) (hx : p.tables.exec = Jvm.exec) {x y : Int32} (hd : decode c.code pc = .ok (.iushr, 1)) (v : Int32) (hv : XT.ushr x y = v) (pc' : Nat) (hp : pc + 1 = pc') (g : Go p e below P (T.setTop (mkF m pc' L (.int v :: st)))) : Go p e below P (T.setTop (mkF m pc L (.int y :: .int x :: st))) := by
  subst hp hv; exact Go.via (fun _ k => XT.iushr X.here hx rfl hd rfl k) g
theorem s_idiv (X : Stand p l e R s m args below meth c T locs cells slots) (hx : p.tables.exec = Jvm.exec) {x y : Int32} (hd : decode c.code pc = .ok (.idiv, 1)) (hy : y ≠ 0) (v : Int32) (hv : x / y = v) (pc' : Nat) (hp : pc + 1 = pc') (g : Go p e below P (T.setTop (mkF m pc' L (.int v :: st)))) : Go p e below P (T.setTop (mkF m pc L (.int y :: .int x :: st))) := by
  subst hp hv; exact Go.via (fun _ k => XS.idiv X.here hx rfl hd rfl hy k) g
theorem s_irem (X : Stand p l e R s m args below meth c T locs cells slots) (hx : p.tables.exec = Jvm.exec) {x y : Int32} (hd : decode c.code pc = .ok (.irem, 1)) (hy : y ≠ 0) (v : Int32) (hv : x % y = v) (pc' : Nat) (hp : pc + 1 = pc') (g : Go p e below P (T.setTop (mkF m pc' L (.int v :: st)))) : Go p e below P (T.setTop (mkF m pc L (.int y :: .int x :: st))) := by
  subst hp hv; exact Go.via (fun _ k => RoadKit.iremM X hx rfl hd rfl hy k) g
theorem s_ineg (X : Stand p l e R s m args below meth c T locs cells slots) (hx : p.tables.exec = Jvm.exec) {x : Int32} (hd : decode c.code pc = .ok (.ineg, 1)) (v : Int32) (hv : -x = v) (pc' : Nat) (hp : pc + 1 = pc') (g : Go p e below P (T.setTop (mkF m pc' L (.int v :: st)))) : Go p e below P (T.setTop (mkF m pc L (.int x :: st))) := by
  subst hp hv; exact Go.via (fun _ k => XS.ineg X.here hx rfl hd rfl k) g
theorem s_ladd (X : Stand p l e R s m args below meth c T locs cells slots) (hx : p.tables.exec = Jvm.exec) {x y : Int64} (hd : decode c.code pc = .ok (.ladd, 1)) (v : Int64) (hv : x + y = v) (pc' : Nat) (hp : pc + 1 = pc') (g : Go p e below P (T.setTop (mkF m pc' L (.long v :: st)))) : Go p e below P (T.setTop (mkF m pc L (.long y :: .long x :: st))) := by
  subst hp hv; exact Go.via (fun _ k => XT.ladd X.here hx rfl hd rfl k) g
theorem s_lsub (X : Stand p l e R s m args below meth c T locs cells slots) (hx : p.tables.exec = Jvm.exec) {x y : Int64} (hd : decode c.code pc = .ok (.lsub, 1)) (v : Int64) (hv : x - y = v) (pc' : Nat) (hp : pc + 1 = pc') (g : Go p e below P (T.setTop (mkF m pc' L (.long v :: st)))) : Go p e below P (T.setTop (mkF m pc L (.long y :: .long x :: st))) := by
  subst hp hv; exact Go.via (fun _ k => XT.lsub X.here hx rfl hd rfl k) g
theorem s_lmul (X : Stand p l e R s m args below meth c T locs cells slots) (hx : p.tables.exec = Jvm.exec) {x y : Int64} (hd : decode c.code pc = .ok (.lmul, 1)) (v : Int64) (hv : x * y = v) (pc' : Nat) (hp : pc + 1 = pc') (g : Go p e below P (T.setTop (mkF m pc' L (.long v :: st)))) : Go p e below P (T.setTop (mkF m pc L (.long y :: .long x :: st))) := by
  subst hp hv; exact Go.via (fun _ k => XT.lmul X.here hx rfl hd rfl k) g
theorem s_land (X : Stand p l e R s m args below meth c T locs cells slots) (hx : p.tables.exec = Jvm.exec) {x y : Int64} (hd : decode c.code pc = .ok (.land, 1)) (v : Int64) (hv : x &&& y = v) (pc' : Nat) (hp : pc + 1 = pc') (g : Go p e below P (T.setTop (mkF m pc' L (.long v :: st)))) : Go p e below P (T.setTop (mkF m pc L (.long y :: .long x :: st))) := by
  subst hp hv; exact Go.via (fun _ k => XT.land X.here hx rfl hd rfl k) g
theorem s_lor (X : Stand p l e R s m args below meth c T locs cells slots) (hx : p.tables.exec = Jvm.exec) {x y : Int64} (hd : decode c.code pc = .ok (.lor, 1)) (v : Int64) (hv : x ||| y = v) (pc' : Nat) (hp : pc + 1 = pc') (g : Go p e below P (T.setTop (mkF m pc' L (.long v :: st)))) : Go p e below P (T.setTop (mkF m pc L (.long y :: .long x :: st))) := by
  subst hp hv; exact Go.via (fun _ k => XT.lor X.here hx rfl hd rfl k) g
theorem s_lxor (X : Stand p l e R s m args below meth c T locs cells slots) (hx : p.tables.exec = Jvm.exec) {x y : Int64} (hd : decode c.code pc = .ok (.lxor, 1)) (v : Int64) (hv : x ^^^ y = v) (pc' : Nat) (hp : pc + 1 = pc') (g : Go p e below P (T.setTop (mkF m pc' L (.long v :: st)))) : Go p e below P (T.setTop (mkF m pc L (.long y :: .long x :: st))) := by
  subst hp hv; exact Go.via (fun _ k => XT.lxor X.here hx rfl hd rfl k) g
theorem s_ldiv (X : Stand p l e R s m args below meth c T locs cells slots) (hx : p.tables.exec = Jvm.exec) {x y : Int64} (hd : decode c.code pc = .ok (.ldiv, 1)) (hy : y ≠ 0) (v : Int64) (hv : x / y = v) (pc' : Nat) (hp : pc + 1 = pc') (g : Go p e below P (T.setTop (mkF m pc' L (.long v :: st)))) : Go p e below P (T.setTop (mkF m pc L (.long y :: .long x :: st))) := by
  subst hp hv; exact Go.via (fun _ k => XT.ldiv X.here hx rfl hd rfl hy k) g
theorem s_lrem (X : Stand p l e R s m args below meth c T locs cells slots) (hx : p.tables.exec = Jvm.exec) {x y : Int64} (hd : decode c.code pc = .ok (.lrem, 1)) (hy : y ≠ 0) (v : Int64) (hv : x - (x / y) * y = v) (pc' : Nat) (hp : pc + 1 = pc') (g : Go p e below P (T.setTop (mkF m pc' L (.long v :: st)))) : Go p e below P (T.setTop (mkF m pc L (.long y :: .long x :: st))) := by
  subst hp hv; exact Go.via (fun _ k => XT.lrem X.here hx rfl hd rfl hy k) g
theorem s_lneg (X : Stand p l e R s m args below meth c T locs cells slots) (hx : p.tables.exec = Jvm.exec) {x : Int64} (hd : decode c.code pc = .ok (.lneg, 1)) (v : Int64) (hv : -x = v) (pc' : Nat) (hp : pc + 1 = pc') (g : Go p e below P (T.setTop (mkF m pc' L (.long v :: st)))) : Go p e below P (T.setTop (mkF m pc L (.long x :: st))) := by
  subst hp hv; exact Go.via (fun _ k => XT.lneg X.here hx rfl hd rfl k) g
theorem sh64 (y : Int32) : (y.toInt64 &&& 63) = (y &&& 0x3f).toInt64 := by rw [Int32.toInt64_and]; rfl
theorem s_lshl (X : Stand p l e R s m args below meth c T locs cells slots) (hx : p.tables.exec = Jvm.exec) {x : Int64} {y : Int32} (hd : decode c.code pc = .ok (.lshl, 1)) (v : Int64) (hv : x <<< (y &&& 0x3f).toInt64 = v) (pc' : Nat) (hp : pc + 1 = pc') (g : Go p e below P (T.setTop (mkF m pc' L (.long v :: st)))) : Go p e below P (T.setTop (mkF m pc L (.int y :: .long x :: st))) := by
  subst hp hv; exact Go.via (fun _ k => XT.lshl X.here hx rfl hd rfl (by rw [sh64]; exact k)) g
theorem s_lshr (X : Stand p l e R s m args below meth c T locs cells slots) (hx : p.tables.exec = Jvm.exec) {x : Int64} {y : Int32} (hd : decode c.code pc = .ok (.lshr, 1)) (v : Int64) (hv : x >>> (y &&& 0x3f).toInt64 = v) (pc' : Nat) (hp : pc + 1 = pc') (g : Go p e below P (T.setTop (mkF m pc' L (.long v :: st)))) : Go p e below P (T.setTop (mkF m pc L (.int y :: .long x :: st))) := by
  subst hp hv; exact Go.via (fun _ k => XT.lshr X.here hx rfl hd rfl (by rw [sh64]; exact k)) g
theorem s_lushr (X : Stand p l e R s m args below meth c T locs cells slots) (hx : p.tables.exec = Jvm.exec) {x : Int64} {y : Int32} (hd : decode c.code pc = .ok (.lushr, 1)) (v : Int64) (hv : XT.ushrL x y = v) (pc' : Nat) (hp : pc + 1 = pc') (g : Go p e below P (T.setTop (mkF m pc' L (.long v :: st)))) : Go p e below P (T.setTop (mkF m pc L (.int y :: .long x :: st))) := by
  subst hp hv; exact Go.via (fun _ k => XT.lushr X.here hx rfl hd rfl k) g
theorem s_i2l (X : Stand p l e R s m args below meth c T locs cells slots) (hx : p.tables.exec = Jvm.exec) {x : Int32} (hd : decode c.code pc = .ok (.i2l, 1)) (v : Int64) (hv : x.toInt64 = v) (pc' : Nat) (hp : pc + 1 = pc') (g : Go p e below P (T.setTop (mkF m pc' L (.long v :: st)))) : Go p e below P (T.setTop (mkF m pc L (.int x :: st))) := by
  subst hp hv; exact Go.via (fun _ k => XT.i2l X.here hx rfl hd rfl k) g
theorem s_l2i (X : Stand p l e R s m args below meth c T locs cells slots) (hx : p.tables.exec = Jvm.exec) {x : Int64} (hd : decode c.code pc = .ok (.l2i, 1)) (v : Int32) (hv : x.toInt32 = v) (pc' : Nat) (hp : pc + 1 = pc') (g : Go p e below P (T.setTop (mkF m pc' L (.int v :: st)))) : Go p e below P (T.setTop (mkF m pc L (.long x :: st))) := by
  subst hp hv; exact Go.via (fun _ k => XT.l2i X.here hx rfl hd rfl k) g
theorem s_i2b (X : Stand p l e R s m args below meth c T locs cells slots) (hx : p.tables.exec = Jvm.exec) {x : Int32} (hd : decode c.code pc = .ok (.i2b, 1)) (v : Int32) (hv : x.toInt8.toInt32 = v) (pc' : Nat) (hp : pc + 1 = pc') (g : Go p e below P (T.setTop (mkF m pc' L (.int v :: st)))) : Go p e below P (T.setTop (mkF m pc L (.int x :: st))) := by
  subst hp hv; exact Go.via (fun _ k => XT.i2b X.here hx rfl hd rfl k) g
theorem s_i2s (X : Stand p l e R s m args below meth c T locs cells slots) (hx : p.tables.exec = Jvm.exec) {x : Int32} (hd : decode c.code pc = .ok (.i2s, 1)) (v : Int32) (hv : x.toInt16.toInt32 = v) (pc' : Nat) (hp : pc + 1 = pc') (g : Go p e below P (T.setTop (mkF m pc' L (.int v :: st)))) : Go p e below P (T.setTop (mkF m pc L (.int x :: st))) := by
  subst hp hv; exact Go.via (fun _ k => XT.i2s X.here hx rfl hd rfl k) g
theorem s_i2d (X : Stand p l e R s m args below meth c T locs cells slots) (hx : p.tables.exec = Jvm.exec) {x : Int32} (hd : decode c.code pc = .ok (.i2d, 1)) (v : UInt64) (hv : FP.i2d x = v) (pc' : Nat) (hp : pc + 1 = pc') (g : Go p e below P (T.setTop (mkF m pc' L (.double v :: st)))) : Go p e below P (T.setTop (mkF m pc L (.int x :: st))) := by
  subst hp; exact Go.via (fun _ k => XS.i2dS X.here hx rfl hd rfl hv k) g
theorem s_l2d (X : Stand p l e R s m args below meth c T locs cells slots) (hx : p.tables.exec = Jvm.exec) {x : Int64} (hd : decode c.code pc = .ok (.l2d, 1)) (v : UInt64) (hv : FP.l2d x = v) (pc' : Nat) (hp : pc + 1 = pc') (g : Go p e below P (T.setTop (mkF m pc' L (.double v :: st)))) : Go p e below P (T.setTop (mkF m pc L (.long x :: st))) := by
  subst hp; exact Go.via (fun _ k => XS.l2dS X.here hx rfl hd rfl hv k) g
theorem s_dneg (X : Stand p l e R s m args below meth c T locs cells slots) (hx : p.tables.exec = Jvm.exec) {x : UInt64} (hd : decode c.code pc = .ok (.dneg, 1)) (v : UInt64) (hv : FP.dneg x = v) (pc' : Nat) (hp : pc + 1 = pc') (g : Go p e below P (T.setTop (mkF m pc' L (.double v :: st)))) : Go p e below P (T.setTop (mkF m pc L (.double x :: st))) := by
  subst hp; exact Go.via (fun _ k => XS.dnegS X.here hx rfl hd rfl hv k) g
theorem s_dadd (X : Stand p l e R s m args below meth c T locs cells slots) (hx : p.tables.exec = Jvm.exec) {x y : UInt64} (hd : decode c.code pc = .ok (.dadd, 1)) (v : UInt64) (hv : FP.dadd x y = v) (hn : NoNaN64 v) (pc' : Nat) (hp : pc + 1 = pc') (g : Go p e below P (T.setTop (mkF m pc' L (.double v :: st)))) : Go p e below P (T.setTop (mkF m pc L (.double y :: .double x :: st))) := by
  subst hp hv; exact Go.via (fun _ k => XS.daddS X.here hx rfl hd rfl hn rfl k) g
theorem s_dsub (X : Stand p l e R s m args below meth c T locs cells slots) (hx : p.tables.exec = Jvm.exec) {x y : UInt64} (hd : decode c.code pc = .ok (.dsub, 1)) (v : UInt64) (hv : FP.dsub x y = v) (hn : NoNaN64 v) (pc' : Nat) (hp : pc + 1 = pc') (g : Go p e below P (T.setTop (mkF m pc' L (.double v :: st)))) : Go p e below P (T.setTop (mkF m pc L (.double y :: .double x :: st))) := by
  subst hp hv; exact Go.via (fun _ k => XS.dsubS X.here hx rfl hd rfl hn rfl k) g
theorem s_dmul (X : Stand p l e R s m args below meth c T locs cells slots) (hx : p.tables.exec = Jvm.exec) {x y : UInt64} (hd : decode c.code pc = .ok (.dmul, 1)) (v : UInt64) (hv : FP.dmul x y = v) (hn : NoNaN64 v) (pc' : Nat) (hp : pc + 1 = pc') (g : Go p e below P (T.setTop (mkF m pc' L (.double v :: st)))) : Go p e below P (T.setTop (mkF m pc L (.double y :: .double x :: st))) := by
  subst hp hv; exact Go.via (fun _ k => XS.dmulS X.here hx rfl hd rfl hn rfl k) g
theorem s_ddiv (X : Stand p l e R s m args below meth c T locs cells slots) (hx : p.tables.exec = Jvm.exec) {x y : UInt64} (hd : decode c.code pc = .ok (.ddiv, 1)) (v : UInt64) (hv : FP.ddiv x y = v) (hn : NoNaN64 v) (pc' : Nat) (hp : pc + 1 = pc') (g : Go p e below P (T.setTop (mkF m pc' L (.double v :: st)))) : Go p e below P (T.setTop (mkF m pc L (.double y :: .double x :: st))) := by
  subst hp hv; exact Go.via (fun _ k => XS.ddivS X.here hx rfl hd rfl hn rfl k) g
theorem s_dcmp (X : Stand p l e R s m args below meth c T locs cells slots) (hx : p.tables.exec = Jvm.exec) {x y : UInt64} {o : CmpOp} (hd : decode c.code pc = .ok (.dcmp o, 1)) (v : Int32) (hv : cmpValue (FP.dcmp x y) o = v) (pc' : Nat) (hp : pc + 1 = pc') (g : Go p e below P (T.setTop (mkF m pc' L (.int v :: st)))) : Go p e below P (T.setTop (mkF m pc L (.double y :: .double x :: st))) := by
  subst hp; exact Go.via (fun _ k => XS.dcmpS X.here hx rfl hd rfl hv k) g
theorem s_lcmp (X : Stand p l e R s m args below meth c T locs cells slots) (hx : p.tables.exec = Jvm.exec) {x y : Int64} (hd : decode c.code pc = .ok (.lcmp, 1)) (v : Int32) (hv : XT.cmpL x y = v) (pc' : Nat) (hp : pc + 1 = pc') (g : Go p e below P (T.setTop (mkF m pc' L (.int v :: st)))) : Go p e below P (T.setTop (mkF m pc L (.long y :: .long x :: st))) := by
  subst hp hv; exact Go.via (fun _ k => XT.lcmp X.here hx rfl hd rfl k) g
theorem s_dup (X : Stand p l e R s m args below meth c T locs cells slots) (hx : p.tables.exec = Jvm.exec) {x : Value} (hd : decode c.code pc = .ok (.dup, 1)) (hc : x.category = 1) (pc' : Nat) (hp : pc + 1 = pc') (g : Go p e below P (T.setTop (mkF m pc' L (x :: x :: st)))) : Go p e below P (T.setTop (mkF m pc L (x :: st))) := by
  subst hp; exact Go.via (fun _ k => XS.dup X.here hx rfl hd rfl hc k) g
theorem s_pop (X : Stand p l e R s m args below meth c T locs cells slots) (hx : p.tables.exec = Jvm.exec) {x : Value} (hd : decode c.code pc = .ok (.pop, 1)) (hc : x.category = 1) (pc' : Nat) (hp : pc + 1 = pc') (g : Go p e below P (T.setTop (mkF m pc' L (st)))) : Go p e below P (T.setTop (mkF m pc L (x :: st))) := by
  subst hp; exact Go.via (fun _ k => XT.pop X.here hx rfl hd rfl hc k) g
theorem s_dupX1 (X : Stand p l e R s m args below meth c T locs cells slots) (hx : p.tables.exec = Jvm.exec) {x y : Value} (hd : decode c.code pc = .ok (.dup_x1, 1)) (hc : x.category = 1) (hc' : y.category = 1) (pc' : Nat) (hp : pc + 1 = pc') (g : Go p e below P (T.setTop (mkF m pc' L (x :: y :: x :: st)))) : Go p e below P (T.setTop (mkF m pc L (x :: y :: st))) := by
  subst hp; exact Go.via (fun _ k => XT.dupX1 X.here hx rfl hd rfl hc hc' k) g
theorem s_dup2 (X : Stand p l e R s m args below meth c T locs cells slots) (hx : p.tables.exec = Jvm.exec) {x y : Value} (hd : decode c.code pc = .ok (.dup2, 1)) (hc : x.category = 1) (hc' : y.category = 1) (pc' : Nat) (hp : pc + 1 = pc') (g : Go p e below P (T.setTop (mkF m pc' L (x :: y :: x :: y :: st)))) : Go p e below P (T.setTop (mkF m pc L (x :: y :: st))) := by
  subst hp; exact Go.via (fun _ k => XT.dup2 X.here hx rfl hd rfl hc hc' k) g
theorem s_iinc (X : Stand p l e R s m args below meth c T locs cells slots) (hx : p.tables.exec = Jvm.exec) {k : Nat} {cst : Int} {x : Int32} (hd : decode c.code pc = .ok (.iinc k cst, 3)) (v : Int32) (hv : x + Int32.ofInt cst = v) (hl : L[k]? = some (.val (.int x))) (L' : Array Slot) (hl' : storeLocals L k (.int v) = some L') (pc' : Nat) (hp : pc + 3 = pc') (g : Go p e below P (T.setTop (mkF m pc' L' (st)))) : Go p e below P (T.setTop (mkF m pc L (st))) := by
  subst hp hv; exact Go.via (fun _ k => XS.iinc X.here hx rfl hd hl hl' k) g
theorem s_goto (X : Stand p l e R s m args below meth c T locs cells slots) (hx : p.tables.exec = Jvm.exec) {o : Int} (hd : decode c.code pc = .ok (.goto o, 3)) (pc' : Nat) (ho : 0 ≤ (pc : Int) + o) (hp : ((pc : Int) + o).toNat = pc') (g : Go p e below P (T.setTop (mkF m pc' L st))) : Go p e below P (T.setTop (mkF m pc L st)) := Go.via (fun _ k => XS.goto X.here hx rfl rfl hd ho hp k) g
theorem s_ifY (X : Stand p l e R s m args below meth c T locs cells slots) (hx : p.tables.exec = Jvm.exec) {cd : ClassFile.Cond} {o : Int} {x : Int32} (hd : decode c.code pc = .ok (.ifCond cd o, 3)) (hc : ifCond.holds cd x = true) (pc' : Nat) (ho : 0 ≤ (pc : Int) + o) (hp : ((pc : Int) + o).toNat = pc') (g : Go p e below P (T.setTop (mkF m pc' L st))) : Go p e below P (T.setTop (mkF m pc L (.int x :: st))) := Go.via (fun _ k => XS.ifYes X.here hx rfl rfl hd rfl hc ho hp k) g
theorem s_ifN (X : Stand p l e R s m args below meth c T locs cells slots) (hx : p.tables.exec = Jvm.exec) {cd : ClassFile.Cond} {o : Int} {x : Int32} (hd : decode c.code pc = .ok (.ifCond cd o, 3)) (hc : ifCond.holds cd x = false) (pc' : Nat) (hp : pc + 3 = pc') (g : Go p e below P (T.setTop (mkF m pc' L (st)))) : Go p e below P (T.setTop (mkF m pc L (.int x :: st))) := by
  subst hp; exact Go.via (fun _ k => XS.ifNo X.here hx rfl hd rfl hc k) g
theorem s_icmpY (X : Stand p l e R s m args below meth c T locs cells slots) (hx : p.tables.exec = Jvm.exec) {cd : ClassFile.Cond} {o : Int} {x y : Int32} (hd : decode c.code pc = .ok (.if_icmp cd o, 3)) (hc : if_icmp.holds cd x y = true) (pc' : Nat) (ho : 0 ≤ (pc : Int) + o) (hp : ((pc : Int) + o).toNat = pc') (g : Go p e below P (T.setTop (mkF m pc' L st))) : Go p e below P (T.setTop (mkF m pc L (.int y :: .int x :: st))) := Go.via (fun _ k => XS.icmpYes X.here hx rfl rfl hd rfl hc ho hp k) g
theorem s_icmpN (X : Stand p l e R s m args below meth c T locs cells slots) (hx : p.tables.exec = Jvm.exec) {cd : ClassFile.Cond} {o : Int} {x y : Int32} (hd : decode c.code pc = .ok (.if_icmp cd o, 3)) (hc : if_icmp.holds cd x y = false) (pc' : Nat) (hp : pc + 3 = pc') (g : Go p e below P (T.setTop (mkF m pc' L (st)))) : Go p e below P (T.setTop (mkF m pc L (.int y :: .int x :: st))) := by
  subst hp; exact Go.via (fun _ k => XS.icmpNo X.here hx rfl hd rfl hc k) g
theorem s_acmpY (X : Stand p l e R s m args below meth c T locs cells slots) (hx : p.tables.exec = Jvm.exec) {cd : ClassFile.ACond} {o : Int} {x y : Value} (hd : decode c.code pc = .ok (.if_acmp cd o, 3)) (h1 : x.isRef = true) (h2 : y.isRef = true) (hc : XT.acmp cd x y = true) (pc' : Nat) (ho : 0 ≤ (pc : Int) + o) (hp : ((pc : Int) + o).toNat = pc') (g : Go p e below P (T.setTop (mkF m pc' L st))) : Go p e below P (T.setTop (mkF m pc L (y :: x :: st))) := Go.via (fun _ k => XT.acmpYes X.here hx rfl rfl hd rfl h1 h2 hc ho hp k) g
theorem s_acmpN (X : Stand p l e R s m args below meth c T locs cells slots) (hx : p.tables.exec = Jvm.exec) {cd : ClassFile.ACond} {o : Int} {x y : Value} (hd : decode c.code pc = .ok (.if_acmp cd o, 3)) (h1 : x.isRef = true) (h2 : y.isRef = true) (hc : XT.acmp cd x y = false) (pc' : Nat) (hp : pc + 3 = pc') (g : Go p e below P (T.setTop (mkF m pc' L (st)))) : Go p e below P (T.setTop (mkF m pc L (y :: x :: st))) := by
  subst hp; exact Go.via (fun _ k => XT.acmpNo X.here hx rfl hd rfl h1 h2 hc k) g
theorem s_ifnullN (X : Stand p l e R s m args below meth c T locs cells slots) (hx : p.tables.exec = Jvm.exec) {o : Int} {b : Addr} (hd : decode c.code pc = .ok (.ifnull o, 3))  (pc' : Nat) (hp : pc + 3 = pc') (g : Go p e below P (T.setTop (mkF m pc' L (st)))) : Go p e below P (T.setTop (mkF m pc L (.ref b :: st))) := by
  subst hp; exact Go.via (fun _ k => XS.ifnullNo X.here hx rfl hd rfl k) g
theorem s_ifnullY (X : Stand p l e R s m args below meth c T locs cells slots) (hx : p.tables.exec = Jvm.exec) {o : Int} (hd : decode c.code pc = .ok (.ifnull o, 3)) (pc' : Nat) (ho : 0 ≤ (pc : Int) + o) (hp : ((pc : Int) + o).toNat = pc') (g : Go p e below P (T.setTop (mkF m pc' L st))) : Go p e below P (T.setTop (mkF m pc L (.null :: st))) := Go.via (fun _ k => XS.ifnullYes X.here hx rfl rfl hd rfl ho hp k) g
theorem s_ifnonnullN (X : Stand p l e R s m args below meth c T locs cells slots) (hx : p.tables.exec = Jvm.exec) {o : Int} (hd : decode c.code pc = .ok (.ifnonnull o, 3))  (pc' : Nat) (hp : pc + 3 = pc') (g : Go p e below P (T.setTop (mkF m pc' L (st)))) : Go p e below P (T.setTop (mkF m pc L (.null :: st))) := by
  subst hp; exact Go.via (fun _ k => XT.ifnonnullNo X.here hx rfl hd rfl k) g
theorem s_ifnonnullY (X : Stand p l e R s m args below meth c T locs cells slots) (hx : p.tables.exec = Jvm.exec) {o : Int} {b : Addr} (hd : decode c.code pc = .ok (.ifnonnull o, 3)) (pc' : Nat) (ho : 0 ≤ (pc : Int) + o) (hp : ((pc : Int) + o).toNat = pc') (g : Go p e below P (T.setTop (mkF m pc' L st))) : Go p e below P (T.setTop (mkF m pc L (.ref b :: st))) := Go.via (fun _ k => XT.ifnonnullYes X.here hx rfl rfl hd rfl ho hp k) g
section Cmp
variable {r : Option Ordering} {o : CmpOp}
theorem dd_ne_t (h : r ≠ some .eq) : ifCond.holds .ne (cmpValue r o) = true := by rcases r with _ | (_ | _ | _) <;> cases o <;> first | rfl | exact absurd rfl h
theorem dd_ne_f (h : r = some .eq) : ifCond.holds .ne (cmpValue r o) = false := by subst h; cases o <;> rfl
theorem dd_eq_t (h : r = some .eq) : ifCond.holds .eq (cmpValue r o) = true := by subst h; cases o <;> rfl
theorem dd_eq_f (h : r ≠ some .eq) : ifCond.holds .eq (cmpValue r o) = false := by rcases r with _ | (_ | _ | _) <;> cases o <;> first | rfl | exact absurd rfl h
theorem dd_ge_t (h : r ≠ some .lt) : ifCond.holds .ge (cmpValue r .g) = true := by rcases r with _ | (_ | _ | _) <;> first | rfl | exact absurd rfl h
theorem dd_ge_f (h : r = some .lt) : ifCond.holds .ge (cmpValue r .g) = false := by subst h; rfl
theorem dd_le_t (h : r ≠ some .gt) : ifCond.holds .le (cmpValue r .l) = true := by rcases r with _ | (_ | _ | _) <;> first | rfl | exact absurd rfl h
theorem dd_le_f (h : r = some .gt) : ifCond.holds .le (cmpValue r .l) = false := by subst h; rfl
theorem dd_gt_f (h : r = some .lt ∨ r = some .eq) : ifCond.holds .gt (cmpValue r .g) = false := by rcases h with h | h <;> (subst h; rfl)
theorem dd_lt_f (h : r = some .gt ∨ r = some .eq) : ifCond.holds .lt (cmpValue r .l) = false := by rcases h with h | h <;> (subst h; rfl)
theorem dd_lt_t (h : r = some .lt) : ifCond.holds .lt (cmpValue r o) = true := by subst h; cases o <;> rfl
end Cmp
end Steps1
/-! ## arrays, by the list of what they hold -/
section Arrays
variable {p : Program} {l : Launch} {e : Env} {R : Room} {s : State} {m : MethodId} {args : Array Value} {below : List Frame} {meth : Method} {c : Code} {T : State} {locs : List Loc} {cells slots : Nat} {P : Outcome → State → Prop} {pc : Nat} {L : Array Slot} {st : List Value} {Z : State} {h h' : Heap} {a b : Addr} {a0 : Array Value} {k : ClassId} {ty : FieldType} {vs : List Value} {v : Value} {sl : Nat} {ws : List Addr}
/-- at a lies an array of components ty, of the class numbered k, that holds vs -/
def AR (Z : State) (h : Heap) (a : Addr) (k : ClassId) (ty : FieldType) (vs : List Value) : Prop := ∃ c : Cell, Arr Z h a c ty ∧ c.cls = k ∧ c.slots = vs.toArray
theorem AR.lt (F : AR Z h a k ty vs) : a < h.size := by obtain ⟨c, A, -⟩ := F; exact A.lt
theorem AR.ext (F : AR Z h a k ty vs) (E : Ext h h') : AR Z h' a k ty vs := by obtain ⟨c, A, r⟩ := F; exact ⟨c, A.ext E, r⟩
theorem AR.other (F : AR Z h b k ty vs) (W : Wr h h' a sl v) (q : b ≠ a) : AR Z h' b k ty vs := by obtain ⟨c, A, r⟩ := F; exact ⟨c, A.other W q, r⟩
theorem AR.keep (F : AR Z h a k ty vs) (K : Keep h h' ws) (q : a ∉ ws) : AR Z h' a k ty vs := by obtain ⟨c, A, r⟩ := F; exact ⟨c, ⟨K.2.1 a c A.1 q, A.2⟩, r⟩
theorem AR.same (F : AR Z h a k ty vs) (W : Wr h h' a sl v) : AR Z h' a k ty (vs.set sl v) := by
  obtain ⟨c, A, r1, r2⟩ := F
  exact ⟨c.setSlot sl v, A.same W, r1, by simp [Cell.setSlot, r2]⟩
theorem ar_len {c : Cell} (r : c.slots = vs.toArray) : c.slots.size = vs.length := by rw [r]; simp
theorem ar_in {c : Cell} (r : c.slots = vs.toArray) {j : Int32} {i : Nat} (hj : ¬ j < 0 ∧ j.toNatClampNeg = i) (hv : vs[i]? = some v) : ¬ (j < 0 ∨ c.slots.size ≤ j.toNatClampNeg) ∧ c.slots[j.toNatClampNeg]? = some v := by
  obtain ⟨h1, rfl⟩ := hj
  have h2 : j.toNatClampNeg < vs.length := (List.getElem?_eq_some_iff.mp hv).1
  refine ⟨?_, by rw [r]; simpa using hv⟩
  rintro (q | q)
  · exact h1 q
  · rw [ar_len r] at q; omega
theorem s_len (X : Stand p l e R s m args below meth c T locs cells slots) (hx : p.tables.exec = Jvm.exec) (hZ : Z.Warmed39 s.vm) (eT : T.heap = h) (F : AR Z h a k ty vs) (hd : decode c.code pc = .ok (.arraylength, 1)) (n : Int32) (hn : vs.length.toInt32 = n) (pc' : Nat) (hp : pc + 1 = pc') (g : Go p e below P (T.setTop (mkF m pc' L (.int n :: st)))) : Go p e below P (T.setTop (mkF m pc L (.ref a :: st))) := by
  obtain ⟨cl, A, r1, r2⟩ := F
  subst hp hn
  rw [← ar_len r2] at g
  exact Go.via (fun _ k => X.arraylength hx (by rw [eT]; exact A.1) (State.isArrayOf_alike hZ.alike A.2.1) (g := mkF m pc L (.ref a :: st)) rfl rfl hd _ k) g
theorem s_iaload (X : Stand p l e R s m args below meth c T locs cells slots) (hx : p.tables.exec = Jvm.exec) (hZ : Z.Warmed39 s.vm) (eT : T.heap = h) (F : AR Z h a k .int vs) (hd : decode c.code pc = .ok (.iaload, 1)) {j : Int32} (i : Nat) (hj : ¬ j < 0 ∧ j.toNatClampNeg = i) (v : Value) (hv : vs[i]? = some v) (pc' : Nat) (hp : pc + 1 = pc') (g : Go p e below P (T.setTop (mkF m pc' L (v :: st)))) : Go p e below P (T.setTop (mkF m pc L (.int j :: .ref a :: st))) := by
  obtain ⟨cl, A, r1, r2⟩ := F
  obtain ⟨q1, q2⟩ := ar_in r2 hj hv
  subst hp
  exact Go.via (fun _ k => X.iaload hx (by rw [eT]; exact A.1) (State.isArrayOf_alike hZ.alike A.2.1) A.2.2 q1 q2 (g := mkF m pc L (.int j :: .ref a :: st)) rfl rfl hd _ k) g
theorem s_laload (X : Stand p l e R s m args below meth c T locs cells slots) (hx : p.tables.exec = Jvm.exec) (hZ : Z.Warmed39 s.vm) (eT : T.heap = h) (F : AR Z h a k .long vs) (hd : decode c.code pc = .ok (.laload, 1)) {j : Int32} (i : Nat) (hj : ¬ j < 0 ∧ j.toNatClampNeg = i) (v : Value) (hv : vs[i]? = some v) (pc' : Nat) (hp : pc + 1 = pc') (g : Go p e below P (T.setTop (mkF m pc' L (v :: st)))) : Go p e below P (T.setTop (mkF m pc L (.int j :: .ref a :: st))) := by
  obtain ⟨cl, A, r1, r2⟩ := F
  obtain ⟨q1, q2⟩ := ar_in r2 hj hv
  subst hp
  exact Go.via (fun _ k => X.laload hx (by rw [eT]; exact A.1) (State.isArrayOf_alike hZ.alike A.2.1) A.2.2 q1 q2 (g := mkF m pc L (.int j :: .ref a :: st)) rfl rfl hd _ k) g
theorem s_daload (X : Stand p l e R s m args below meth c T locs cells slots) (hx : p.tables.exec = Jvm.exec) (hZ : Z.Warmed39 s.vm) (eT : T.heap = h) (F : AR Z h a k .double vs) (hd : decode c.code pc = .ok (.daload, 1)) {j : Int32} (i : Nat) (hj : ¬ j < 0 ∧ j.toNatClampNeg = i) (v : Value) (hv : vs[i]? = some v) (pc' : Nat) (hp : pc + 1 = pc') (g : Go p e below P (T.setTop (mkF m pc' L (v :: st)))) : Go p e below P (T.setTop (mkF m pc L (.int j :: .ref a :: st))) := by
  obtain ⟨cl, A, r1, r2⟩ := F
  obtain ⟨q1, q2⟩ := ar_in r2 hj hv
  subst hp
  exact Go.via (fun _ k => X.daload hx (by rw [eT]; exact A.1) (State.isArrayOf_alike hZ.alike A.2.1) A.2.2 q1 q2 (g := mkF m pc L (.int j :: .ref a :: st)) rfl rfl hd _ k) g
theorem s_aaload (X : Stand p l e R s m args below meth c T locs cells slots) (hx : p.tables.exec = Jvm.exec) (hZ : Z.Warmed39 s.vm) (eT : T.heap = h) (F : AR Z h a k ty vs) (ht : ty.isReference = true) (hd : decode c.code pc = .ok (.aaload, 1)) {j : Int32} (i : Nat) (hj : ¬ j < 0 ∧ j.toNatClampNeg = i) (v : Value) (hv : vs[i]? = some v) (pc' : Nat) (hp : pc + 1 = pc') (g : Go p e below P (T.setTop (mkF m pc' L (v :: st)))) : Go p e below P (T.setTop (mkF m pc L (.int j :: .ref a :: st))) := by
  obtain ⟨cl, A, r1, r2⟩ := F
  obtain ⟨q1, q2⟩ := ar_in r2 hj hv
  subst hp
  exact Go.via (fun _ k => X.aaload hx (by rw [eT]; exact A.1) (State.isArrayOf_alike hZ.alike A.2.1) ht A.2.2 q1 q2 (g := mkF m pc L (.int j :: .ref a :: st)) rfl rfl hd _ k) g
theorem s_iastore (X : Stand p l e R s m args below meth c T locs cells slots) (hx : p.tables.exec = Jvm.exec) (hZ : Z.Warmed39 s.vm) (eT : T.heap = h) (F : AR Z h a k .int vs) (hd : decode c.code pc = .ok (.iastore, 1)) (L : Array Slot) (st : List Value) {j : Int32} (i : Nat) (hj : ¬ j < 0 ∧ j.toNatClampNeg = i) (hi : i < vs.length) (x : Int32) (vs' : List Value) (hvs : vs.set i (.int x) = vs') (pc' : Nat) (hp : pc + 1 = pc') :
    ∃ T' h', Stand p l e R s m args below meth c T' (locs ++ [⟨a, i⟩]) cells slots ∧ T'.heap = h' ∧ Wr h h' a i (.int x) ∧ AR Z h' a k .int vs' ∧ ∀ t, Steps p.tables e below (T'.setTop (mkF m pc' L st)) t → Steps p.tables e below (T.setTop (mkF m pc L (.int x :: .int j :: .ref a :: st))) t := by
  obtain ⟨cl, A, r1, r2⟩ := F
  obtain ⟨q1, -⟩ := ar_in r2 hj (List.getElem?_eq_getElem hi)
  obtain ⟨hj1, rfl⟩ := hj
  subst hp hvs
  obtain ⟨T', h', X', e', W, st'⟩ := stI X hx hZ eT A q1 (g := mkF m pc L (.int x :: .int j :: .ref a :: st)) rfl rfl hd
  exact ⟨T', h', X', e', W, AR.same ⟨cl, A, r1, r2⟩ W, st'⟩
theorem s_lastore (X : Stand p l e R s m args below meth c T locs cells slots) (hx : p.tables.exec = Jvm.exec) (hZ : Z.Warmed39 s.vm) (eT : T.heap = h) (F : AR Z h a k .long vs) (hd : decode c.code pc = .ok (.lastore, 1)) (L : Array Slot) (st : List Value) {j : Int32} (i : Nat) (hj : ¬ j < 0 ∧ j.toNatClampNeg = i) (hi : i < vs.length) (x : Int64) (vs' : List Value) (hvs : vs.set i (.long x) = vs') (pc' : Nat) (hp : pc + 1 = pc') :
    ∃ T' h', Stand p l e R s m args below meth c T' (locs ++ [⟨a, i⟩]) cells slots ∧ T'.heap = h' ∧ Wr h h' a i (.long x) ∧ AR Z h' a k .long vs' ∧ ∀ t, Steps p.tables e below (T'.setTop (mkF m pc' L st)) t → Steps p.tables e below (T.setTop (mkF m pc L (.long x :: .int j :: .ref a :: st))) t := by
  obtain ⟨cl, A, r1, r2⟩ := F
  obtain ⟨q1, -⟩ := ar_in r2 hj (List.getElem?_eq_getElem hi)
  obtain ⟨hj1, rfl⟩ := hj
  subst hp hvs
  obtain ⟨T', h', X', e', W, st'⟩ := stJ X hx hZ eT A q1 (g := mkF m pc L (.long x :: .int j :: .ref a :: st)) rfl rfl hd
  exact ⟨T', h', X', e', W, AR.same ⟨cl, A, r1, r2⟩ W, st'⟩
theorem s_dastore (X : Stand p l e R s m args below meth c T locs cells slots) (hx : p.tables.exec = Jvm.exec) (hZ : Z.Warmed39 s.vm) (eT : T.heap = h) (F : AR Z h a k .double vs) (hd : decode c.code pc = .ok (.dastore, 1)) (L : Array Slot) (st : List Value) {j : Int32} (i : Nat) (hj : ¬ j < 0 ∧ j.toNatClampNeg = i) (hi : i < vs.length) (x : UInt64) (vs' : List Value) (hvs : vs.set i (.double x) = vs') (pc' : Nat) (hp : pc + 1 = pc') :
    ∃ T' h', Stand p l e R s m args below meth c T' (locs ++ [⟨a, i⟩]) cells slots ∧ T'.heap = h' ∧ Wr h h' a i (.double x) ∧ AR Z h' a k .double vs' ∧ ∀ t, Steps p.tables e below (T'.setTop (mkF m pc' L st)) t → Steps p.tables e below (T.setTop (mkF m pc L (.double x :: .int j :: .ref a :: st))) t := by
  obtain ⟨cl, A, r1, r2⟩ := F
  obtain ⟨q1, -⟩ := ar_in r2 hj (List.getElem?_eq_getElem hi)
  obtain ⟨hj1, rfl⟩ := hj
  subst hp hvs
  obtain ⟨T', h', X', e', W, st'⟩ := stD X hx hZ eT A q1 (g := mkF m pc L (.double x :: .int j :: .ref a :: st)) rfl rfl hd
  exact ⟨T', h', X', e', W, AR.same ⟨cl, A, r1, r2⟩ W, st'⟩
theorem s_aastore (X : Stand p l e R s m args below meth c T locs cells slots) (hx : p.tables.exec = Jvm.exec) (hZ : Z.Warmed39 s.vm) (eT : T.heap = h) (F : AR Z h a k ty vs) (ht : ty.isReference = true) (hd : decode c.code pc = .ok (.aastore, 1)) (L : Array Slot) (st : List Value) {j : Int32} (i : Nat) (hj : ¬ j < 0 ∧ j.toNatClampNeg = i) (hi : i < vs.length) (x : Value) (S : Sto Z h a x) (vs' : List Value) (hvs : vs.set i x = vs') (pc' : Nat) (hp : pc + 1 = pc') :
    ∃ T' h', Stand p l e R s m args below meth c T' (locs ++ [⟨a, i⟩]) cells slots ∧ T'.heap = h' ∧ Wr h h' a i x ∧ AR Z h' a k ty vs' ∧ ∀ t, Steps p.tables e below (T'.setTop (mkF m pc' L st)) t → Steps p.tables e below (T.setTop (mkF m pc L (x :: .int j :: .ref a :: st))) t := by
  obtain ⟨cl, A, r1, r2⟩ := F
  obtain ⟨q1, -⟩ := ar_in r2 hj (List.getElem?_eq_getElem hi)
  obtain ⟨hj1, rfl⟩ := hj
  subst hp hvs
  obtain ⟨T', h', X', e', W, st'⟩ := stR X hx hZ eT A q1 ht S (g := mkF m pc L (x :: .int j :: .ref a :: st)) rfl rfl hd
  exact ⟨T', h', X', e', W, AR.same ⟨cl, A, r1, r2⟩ W, st'⟩
theorem s_newarray (X : Stand p l e R s m args below meth c T locs cells slots) (hx : p.tables.exec = Jvm.exec) (hZ : Z.Warmed39 s.vm) {aty : ArrayType} (w : (Cond.arrayClass (newarray.typeOf aty)).before a0 Z = true) (eT : T.heap = h) (hd : decode c.code pc = .ok (.newarray aty, 2)) (L : Array Slot) (st : List Value) {n : Int32} (cap : Nat) (hn : ¬ n < 0 ∧ n.toNatClampNeg = cap) (vs : List Value) (hvs : List.replicate cap (defaultValue (newarray.typeOf aty)) = vs) (hb : cap * 8 ≤ 536870912) (hc : cells + 1 ≤ R.cells) (hl : slots + cap ≤ R.slots) (pc' : Nat) (hp : pc + 2 = pc') :
    ∃ T' h' cA, Stand p l e R s m args below meth c T' locs (cells + 1) (slots + cap) ∧ T'.heap = h' ∧ Ext h h' ∧ AR Z h' h.size cA (newarray.typeOf aty) vs ∧ ∀ t, Steps p.tables e below (T'.setTop (mkF m pc' L (.ref h.size :: st))) t → Steps p.tables e below (T.setTop (mkF m pc L (.int n :: st))) t := by
  obtain ⟨n1, n2⟩ := hn
  obtain ⟨T', h', cA, X', e', E, A, st'⟩ := newP X hx hZ w eT (g := mkF m pc L (.int n :: st)) rfl hd rfl n1 (cap := cap) (Nat.le_of_eq n2) hb hc hl
  subst hp hvs
  exact ⟨T', h', cA, X', e', E, ⟨_, A, rfl, by simp [newA, n2]⟩, st'⟩
end Arrays
/-! ## calls by contract -/
section Calls
variable {p : Program} {l : Launch} {e : Env} {R : Room} {s : State} {m : MethodId} {args : Array Value} {below : List Frame} {meth : Method} {c : Code} {T : State} {locs : List Loc} {cells slots : Nat} {P : Outcome → State → Prop} {pc : Nat} {L : Array Slot} {st : List Value} {Z : State} {h h' : Heap} {a0 : Array Value} {own : String} {index : Nat} {y : MethodName} {bytes : ByteArray} {ml : Nat} {rm : Room} {as : Array Value} {Q : Option Value → Heap → List Loc → Prop}
theorem ct_back {ret : Option FieldType} {len W : Nat} (C : Ct l Z y bytes ml ret [] rm as h Q) (hZ : Z.Warmed39 s.vm) (wc : (Cond.code y bytes ml ret).before a0 Z = true) (wz : (Cond.initialized y.cls).before a0 Z = true) (hf : rm.frames + 1 ≤ R.frames) (hl : W + (ml + 11) + rm.locals ≤ R.locals) :
    Back l R p e below s args y len W (fun A a => a = as ∧ A.U.heap = h ∧ A.cells + rm.cells ≤ R.cells ∧ A.slots + rm.slots ≤ R.slots)
      (fun A _ v B => ∃ L, Q v B.U.heap L ∧ B.locs = A.locs ++ L ∧ B.cells = A.cells + rm.cells ∧ B.slots = A.slots + rm.slots) := backOf C hZ wc wz hf hl
theorem callStat {ret : Option FieldType} (X : Stand p l e R s m args below meth c T locs cells slots) (hx : p.tables.exec = Jvm.exec) (hZ : Z.Warmed39 s.vm) (hown : s.vm.findClass own = some m.cls) (w1 : (Cond.methodLink own index y).before a0 Z = true) (w2 : (Cond.static y).before a0 Z = true) (w3 : (Cond.initialized y.cls).before a0 Z = true) (w4 : (Cond.code y bytes ml ret).before a0 Z = true) (hy : y.cls ≠ "java/lang/invoke/MethodHandle" ∧ y.cls ≠ "java/lang/invoke/VarHandle") (C : Ct l Z y bytes ml ret [] rm as h Q) (eT : T.heap = h) (hd : decode c.code pc = .ok (.invokestatic index, 3)) (hml : L.size = c.maxLocals) (argsL rest : List Value) (hst : st = argsL.reverse ++ rest) (has : argsL.toArray = as) {ps : List FieldType} {r : Option FieldType} (hpd : parseMethodDescriptor y.desc = some ⟨ps, r⟩) (hln : argsL.length = ps.length) (W : Nat) (hW : 2 * 0 + (rest.map fun v => v.category).sum ≤ W) (hfr : rm.frames + 1 ≤ R.frames) (hlo : W + (ml + 11) + rm.locals ≤ R.locals) (hc : cells + rm.cells ≤ R.cells) (hs : slots + rm.slots ≤ R.slots) :
    ∃ v T' L', Stand p l e R s m args below meth c T' (locs ++ L') (cells + rm.cells) (slots + rm.slots) ∧ Q v T'.heap L' ∧ ∀ t, Steps p.tables e below (T'.setTop (mkF m (pc + 3) L (v.toList ++ rest))) t → Steps p.tables e below (T.setTop (mkF m pc L st)) t := by
  obtain ⟨v, _, ⟨T', L1, k1, n1⟩, -, X', ⟨L', hQ, l1, y1, z1⟩, st'⟩ := Jvm.LawKit.callS X hx (y := y) hown (mvT hZ w1) (mvT hZ w2) (mvT hZ w3) (mvT hZ w4) hy (ct_back (W := W) C hZ w4 w3 hfr hlo) (g := mkF m pc L st) rfl hml (argsL := argsL) (rest := rest) (lenOf hpd hln) hst hW hd (fun _ _ => ⟨has, eT, hc, hs⟩)
  dsimp only [Pt.U, Pt.locs, Pt.cells, Pt.slots] at X' l1 y1 z1 st' hQ
  subst l1 y1 z1
  exact ⟨v, T', L', X', hQ, st'⟩
theorem callInit (X : Stand p l e R s m args below meth c T locs cells slots) (hx : p.tables.exec = Jvm.exec) (hZ : Z.Warmed39 s.vm) (hown : s.vm.findClass own = some m.cls) (hin : y.name = "<init>") (w1 : (Cond.methodLink own index y).before a0 Z = true) (w2 : (Cond.instanceMethod y).before a0 Z = true) (w3 : (Cond.initialized y.cls).before a0 Z = true) (w4 : (Cond.code y bytes ml none).before a0 Z = true) (hy : y.cls ≠ "java/lang/invoke/MethodHandle" ∧ y.cls ≠ "java/lang/invoke/VarHandle") (C : Ct l Z y bytes ml none [] rm as h Q) (eT : T.heap = h) (hd : decode c.code pc = .ok (.invokespecial index, 3)) (hml : L.size = c.maxLocals) (a : Addr) (argsL rest : List Value) (hst : st = argsL.reverse ++ .ref a :: rest) (has : (.ref a :: argsL).toArray = as) {ps : List FieldType} {r : Option FieldType} (hpd : parseMethodDescriptor y.desc = some ⟨ps, r⟩) (hln : argsL.length = ps.length) (W : Nat) (hW : 2 * 0 + (rest.map fun v => v.category).sum ≤ W) (hfr : rm.frames + 1 ≤ R.frames) (hlo : W + (ml + 11) + rm.locals ≤ R.locals) (hc : cells + rm.cells ≤ R.cells) (hs : slots + rm.slots ≤ R.slots) :
    ∃ v T' L', Stand p l e R s m args below meth c T' (locs ++ L') (cells + rm.cells) (slots + rm.slots) ∧ Q v T'.heap L' ∧ ∀ t, Steps p.tables e below (T'.setTop (mkF m (pc + 3) L (v.toList ++ rest))) t → Steps p.tables e below (T.setTop (mkF m pc L st)) t := by
  obtain ⟨v, _, ⟨T', L1, k1, n1⟩, -, X', ⟨L', hQ, l1, y1, z1⟩, st'⟩ := X.specialBack hx (y := y) hin hown (mvT hZ w1) (mvT hZ w2) (mvT hZ w4) hy (ct_back (W := W) C hZ w4 w3 hfr hlo) (g := mkF m pc L st) rfl hml (Steps.refl _) (a := a) (argsL := argsL) (rest := rest) (lenOf hpd hln) hst hW hd (fun _ _ => ⟨has, eT, hc, hs⟩)
  dsimp only [Pt.U, Pt.locs, Pt.cells, Pt.slots] at X' l1 y1 z1 st' hQ
  subst l1 y1 z1
  exact ⟨v, T', L', X', hQ, fun t k => st'.trans k⟩
theorem callVirt {ret : Option FieldType} {C0 : String} (X : Stand p l e R s m args below meth c T locs cells slots) (hx : p.tables.exec = Jvm.exec) (hZ : Z.Warmed39 s.vm) (hown : s.vm.findClass own = some m.cls) (w1 : (Cond.methodLink own index y).before a0 Z = true) (w2 : (Cond.declares y).before a0 Z = true) (w3 : (Cond.selects C0 y y).before a0 Z = true) (w4 : (Cond.instanceMethod y).before a0 Z = true) (w5 : (Cond.initialized y.cls).before a0 Z = true) (w6 : (Cond.code y bytes ml ret).before a0 Z = true) (hy : y.cls ≠ "java/lang/invoke/MethodHandle" ∧ y.cls ≠ "java/lang/invoke/VarHandle") (C : Ct l Z y bytes ml ret [] rm as h Q) (eT : T.heap = h) (a : Addr) (E : Exa Z h a C0) (hd : decode c.code pc = .ok (.invokevirtual index, 3)) (hml : L.size = c.maxLocals) (argsL rest : List Value) (hst : st = argsL.reverse ++ .ref a :: rest) (has : (.ref a :: argsL).toArray = as) {ps : List FieldType} {r : Option FieldType} (hpd : parseMethodDescriptor y.desc = some ⟨ps, r⟩) (hln : argsL.length = ps.length) (W : Nat) (hW : 2 * 0 + (rest.map fun v => v.category).sum ≤ W) (hfr : rm.frames + 1 ≤ R.frames) (hlo : W + (ml + 11) + rm.locals ≤ R.locals) (hc : cells + rm.cells ≤ R.cells) (hs : slots + rm.slots ≤ R.slots) :
    ∃ v T' L', Stand p l e R s m args below meth c T' (locs ++ L') (cells + rm.cells) (slots + rm.slots) ∧ Q v T'.heap L' ∧ ∀ t, Steps p.tables e below (T'.setTop (mkF m (pc + 3) L (v.toList ++ rest))) t → Steps p.tables e below (T.setTop (mkF m pc L st)) t := by
  obtain ⟨cq, kq, qa, qb, qc⟩ := isOf hZ eT E
  obtain ⟨v, _, ⟨T', L1, k1, n1⟩, -, X', ⟨L', hQ, l1, y1, z1⟩, st'⟩ := X.virtualBack hx (y := y) (z := y) hown (mvT hZ w1) (mvT hZ w2) (notFace_of_selects (args := #[]) (mvT hZ w3)) (mvT hZ w3) (mvT hZ w4) hy (ct_back (W := W) C hZ w6 w5 hfr hlo) qa qc (g := mkF m pc L st) rfl hml (Steps.refl _) (argsL := argsL) (rest := rest) (lenOf hpd hln) hst hW hd (fun _ _ => ⟨has, eT, hc, hs⟩)
  dsimp only [Pt.U, Pt.locs, Pt.cells, Pt.slots] at X' l1 y1 z1 st' hQ
  subst l1 y1 z1
  exact ⟨v, T', L', X', hQ, fun t k => st'.trans k⟩
end Calls
end Jvm.OwnGo
namespace Jvm.OwnFP
open Jvm.FP Jvm.FP.Core Jvm.Free.Fl
/-- a * 2^x = b -/
def PE (a b : Nat) (x : Int) : Prop := a * 2 ^ x.toNat = b * 2 ^ (-x).toNat
theorem pe_iff {a b : Nat} {x : Int} (y z : Nat) (h : x = (y : Int) - z) : PE a b x ↔ a * 2 ^ y = b * 2 ^ z := by
  unfold PE
  obtain ⟨d, rfl, rfl⟩ : ∃ d, y = x.toNat + d ∧ z = (-x).toNat + d := ⟨min y z, by omega, by omega⟩
  have p1 : 0 < 2 ^ d := Nat.two_pow_pos _
  rw [Nat.pow_add, Nat.pow_add, ← Nat.mul_assoc, ← Nat.mul_assoc]
  exact ⟨fun q => by rw [q], fun q => Nat.eq_of_mul_eq_mul_right p1 q⟩
theorem PE.symm {a b : Nat} {x : Int} (h : PE a b x) : PE b a (-x) := by
  unfold PE at h ⊢; rw [Int.neg_neg]; exact h.symm
theorem PE.trans {a b c : Nat} {x y : Int} (h : PE a b x) (g : PE b c y) : PE a c (x + y) := by
  rw [pe_iff (x.toNat + y.toNat) ((-x).toNat + (-y).toNat) (by omega)]
  unfold PE at h g
  rw [Nat.pow_add, Nat.pow_add, ← Nat.mul_assoc, h, Nat.mul_right_comm, g, Nat.mul_assoc, Nat.mul_comm (2 ^ (-y).toNat)]
theorem PE.mul {a b : Nat} {x : Int} (h : PE a b x) (c : Nat) : PE (c * a) (c * b) x := by
  unfold PE at h ⊢; rw [Nat.mul_assoc, Nat.mul_assoc, h]
theorem PE.of {a b : Nat} {y z : Nat} (h : a * 2 ^ y = b * 2 ^ z) : PE a b ((y : Int) - z) := (pe_iff y z rfl).mpr h
theorem PE.cast {a b : Nat} {x y : Int} (h : PE a b x) (e : x = y) : PE a b y := e ▸ h
/-- the datum times 2^k -/
def sh (k : Int) : Datum → Datum
  | .fin s c q => .fin s c (q + k)
  | d => d
/-- the double a is i / 2^k, just so -/
def Dy (i : Int) (k : Nat) (a : UInt64) : Prop := Whole i (sh k (val64 a))
theorem Dy.fin {i : Int} {k : Nat} {a : UInt64} (h : Dy i k a) : ∃ s c q, val64 a = .fin s c q := by
  unfold Dy at h
  cases hv : val64 a with
  | nan => rw [hv] at h; exact h.elim
  | inf s => rw [hv] at h; exact h.elim
  | fin s c q => exact ⟨s, c, q, rfl⟩
theorem Dy.dfin {i : Int} {k : Nat} {a : UInt64} (h : Dy i k a) : DFin a := h.fin
theorem Dy.fin64 {i : Int} {k : Nat} {a : UInt64} (h : Dy i k a) : Fin64 a := fin64_core.mpr h.fin
theorem Dy.nn {i : Int} {k : Nat} {a : UInt64} (h : Dy i k a) : NoNaN64 a := h.fin64.noNaN
theorem Dy.ne {i : Int} {k : Nat} {a : UInt64} (h : Dy i k a) : val64 a ≠ .nan := h.dfin.ne_nan
theorem dy_int {i : Int} {a : UInt64} (h : DInt i a) : Dy i 0 a := by
  unfold DInt at h; unfold Dy
  cases hv : val64 a with
  | nan => rw [hv] at h; exact h.elim
  | inf s => rw [hv] at h; exact h.elim
  | fin s c q => rw [hv] at h; show Whole i (.fin s c (q + 0)); rw [Int.add_zero]; exact h
theorem Dy.int {i : Int} {a : UInt64} (h : Dy i 0 a) : DInt i a := by
  obtain ⟨s, c, q, hv⟩ := h.fin
  unfold Dy at h; unfold DInt
  rw [hv] at h ⊢
  have h : Whole i (.fin s c (q + 0)) := h
  rw [Int.add_zero] at h; exact h
theorem dy_i2d (x : Int32) : Dy x.toInt 0 (FP.i2d x) := dy_int (i2d_int x)
theorem dy_l2d {x : Int64} (h : x.toInt.natAbs ≤ 2 ^ 53) : Dy x.toInt 0 (FP.l2d x) := dy_int (l2d_int h)
theorem whole_pe {i : Int} {s : Bool} {c : Nat} {q : Int} (h : Whole i (.fin s c q)) : PE c i.natAbs q := whole_natAbs h
/-- what is so small a multiple of a power of two is a double -/
theorem dy_rnd {i : Int} {k : Nat} {s : Bool} {n : Nat} (hn : i.natAbs = n) (hs : i ≠ 0 → s = decide (i < 0)) (hi : n ≤ 2 ^ 53) (hk : k ≤ 1000) : Whole i (sh k (roundRatio b64 s n 1 (-(k : Int)))) := by
  by_cases h0 : n = 0
  · have : i = 0 := by omega
    subst this
    unfold roundRatio
    rw [if_pos h0]
    show signed s (0 * _) = 0 * _
    rw [Nat.zero_mul, Int.zero_mul]; exact signed_zero s
  · obtain ⟨c, q, hfit, hv⟩ := natFit good_b64 wide_b64 s (n := n) hi
    have hq : q = -1074 ∨ b64.tails ≤ c := by have := hfit.2.2.2; rw [qmin_b64] at this; exact this
    have hv' : n * 2 ^ (-q).toNat = c * 2 ^ q.toNat := by
      rw [show (0 - q).toNat = (-q).toNat by omega, show (q - 0).toNat = q.toNat by omega, Nat.mul_one] at hv; exact hv
    have hc : c < 2 ^ 53 := hfit.1
    have hq2 : q ≤ b64.qmax := hfit.2.2.1
    have hq1 : -53 ≤ q := by
      refine Int.le_of_not_gt fun hlt => ?_
      have e1 : q.toNat = 0 := by omega
      rw [e1, Nat.pow_zero, Nat.mul_one] at hv'
      have : 2 ^ 53 ≤ 2 ^ (-q).toNat := Nat.pow_le_pow_right (by decide) (by omega)
      have h2 : 1 * 2 ^ 53 ≤ n * 2 ^ (-q).toNat := Nat.mul_le_mul (by omega) this
      omega
    have hfit2 : Core.fits b64 (.fin s c (q - k)) := by
      refine ⟨hfit.1, ?_, by omega, Or.inr ?_⟩
      · rw [qmin_b64]; omega
      · rcases hq with hq | hq
        · omega
        · exact hq
    rw [roundRatio_exact good_b64 (by decide) hfit2 (by
      rw [show (-(k : Int) - (q - k)).toNat = (-q).toNat by omega, show (q - (k : Int) - -(k : Int)).toNat = q.toNat by omega, Nat.mul_one]; exact hv')]
    show Whole i (.fin s c (q - k + k))
    rw [show q - (k : Int) + k = q by omega]
    show signed s (c * 2 ^ q.toNat) = i * _
    rw [← hv', signed_mul, hs (by omega)]
    congr 1
    unfold signed
    by_cases h : i < 0 <;> simp [h] <;> omega
theorem dy_round {i : Int} {k : Nat} {s : Bool} {c : Nat} {q : Int} (h : Whole i (.fin s c (q + k))) (hi : i.natAbs ≤ 2 ^ 53) (hk : k ≤ 1000) : Whole i (sh k (round b64 (.fin s c q))) := by
  have e : round b64 (.fin s c q) = roundRatio b64 s i.natAbs 1 (-(k : Int)) := by
    refine roundRatio_congr (by decide) (by decide) ?_
    have := whole_natAbs h
    rw [show (q - -(k : Int)).toNat = (q + k).toNat by omega, show (-(k : Int) - q).toNat = (-(q + k)).toNat by omega]
    simpa using this
  rw [e]
  exact dy_rnd rfl (fun hz => whole_sign h hz) hi hk
theorem sh_sum (k : Int) (s : Bool) (c : Nat) (q : Int) (t : Bool) (d : Nat) (r : Int) : sh k (exactSum (.fin s c q) (.fin t d r)) = exactSum (.fin s c (q + k)) (.fin t d (r + k)) := by
  have e : min (q + k) (r + k) = min q r + k := by omega
  simp only [exactSum, sh, e, sumUnits, inUnits]
  rw [show q + k - (min q r + k) = q - min q r by omega, show r + k - (min q r + k) = r - min q r by omega]
theorem dy_add {i j : Int} {k : Nat} {a b : UInt64} (ha : Dy i k a) (hb : Dy j k b) (h : (i + j).natAbs ≤ 2 ^ 53) (hk : k ≤ 1000) : Dy (i + j) k (FP.dadd a b) := by
  obtain ⟨s, c, q, ea⟩ := ha.fin
  obtain ⟨t, d, r, eb⟩ := hb.fin
  unfold Dy at ha hb ⊢
  rw [ea] at ha; rw [eb] at hb
  have w : Whole (i + j) (sh k (exactSum (.fin s c q) (.fin t d r))) := by rw [sh_sum]; exact whole_sum ha hb
  rw [show FP.dadd a b = Core.dadd a b from rfl, val64_dadd, ea, eb]
  exact dy_round w h hk
theorem dy_neg {i : Int} {k : Nat} {a : UInt64} (ha : Dy i k a) : Dy (-i) k (FP.dneg a) := by
  obtain ⟨s, c, q, ea⟩ := ha.fin
  unfold Dy at ha ⊢
  rw [ea] at ha
  rw [FP.val64_dneg, ea]
  exact whole_negate ha
theorem dy_sub {i j : Int} {k : Nat} {a b : UInt64} (ha : Dy i k a) (hb : Dy j k b) (h : (i - j).natAbs ≤ 2 ^ 53) (hk : k ≤ 1000) : Dy (i - j) k (FP.dsub a b) := by
  obtain ⟨s, c, q, ea⟩ := ha.fin
  obtain ⟨t, d, r, eb⟩ := hb.fin
  unfold Dy at ha hb ⊢
  rw [ea] at ha; rw [eb] at hb
  have hb' : Whole (-j) (.fin (!t) d (r + k)) := whole_negate hb
  have w : Whole (i - j) (sh k (exactSum (.fin s c q) (.fin (!t) d r))) := by rw [sh_sum]; exact whole_sum ha hb'
  rw [show FP.dsub a b = Core.dsub a b from rfl, val64_dsub, ea, eb]
  exact dy_round w h hk
theorem dy_mul {i j : Int} {k n : Nat} {a b : UInt64} (ha : Dy i k a) (hb : Dy j n b) (h : (i * j).natAbs ≤ 2 ^ 53) (hk : k + n ≤ 1000) : Dy (i * j) (k + n) (FP.dmul a b) := by
  obtain ⟨s, c, q, ea⟩ := ha.fin
  obtain ⟨t, d, r, eb⟩ := hb.fin
  unfold Dy at ha hb ⊢
  rw [ea] at ha; rw [eb] at hb
  have w : Whole (i * j) (.fin (s != t) (c * d) (q + r + (k + n : Nat))) := by
    have := whole_product ha hb
    rw [show q + r + ((k + n : Nat) : Int) = q + k + (r + n) by omega]; exact this
  rw [show FP.dmul a b = Core.dmul a b from rfl, val64_dmul, ea, eb]
  exact dy_round w h hk
theorem dy_up {i : Int} {k : Nat} {a : UInt64} (n : Nat) (ha : Dy i k a) : Dy (i * (2 ^ n : Nat)) (k + n) a := by
  obtain ⟨s, c, q, ea⟩ := ha.fin
  unfold Dy at ha ⊢
  rw [ea] at ha ⊢
  have ha : signed s (c * 2 ^ (q + k).toNat) = i * ((2 ^ (-(q + k)).toNat : Nat) : Int) := ha
  show signed s (c * 2 ^ (q + (k + n : Nat)).toNat) = i * (2 ^ n : Nat) * ((2 ^ (-(q + (k + n : Nat))).toNat : Nat) : Int)
  have p2 : ((2 ^ (-(q + (k : Int))).toNat : Nat) : Int) ≠ 0 := by have := Nat.two_pow_pos (-(q + (k : Int))).toNat; omega
  have e1 : (q + ((k + n : Nat) : Int)).toNat + (-(q + (k : Int))).toNat = (q + (k : Int)).toNat + (n + (-(q + ((k + n : Nat) : Int))).toNat) := by omega
  rw [signed_mul] at ha ⊢
  refine Int.eq_of_mul_eq_mul_right p2 ?_
  rw [Int.mul_assoc, ← Int.natCast_mul, ← Nat.pow_add, e1, Nat.pow_add, Int.natCast_mul, ← Int.mul_assoc, ha, Nat.pow_add, Int.natCast_mul]
  ac_rfl
theorem dy_cmp {i j : Int} {k : Nat} {a b : UInt64} (ha : Dy i k a) (hb : Dy j k b) : FP.dcmp a b = some (compare i j) := by
  obtain ⟨s, c, q, ea⟩ := ha.fin
  obtain ⟨t, d, r, eb⟩ := hb.fin
  unfold Dy at ha hb
  rw [ea] at ha; rw [eb] at hb
  have w := order_whole ha hb
  show order (val64 a) (val64 b) = _
  rw [ea, eb, ← w]
  have e : min (q + k) (r + k) = min q r + k := by omega
  simp only [order, sh, e, inUnits]
  rw [show q + k - (min q r + k) = q - min q r by omega, show r + k - (min q r + k) = r - min q r by omega]
theorem dy_div {i j t : Int} {k n r : Nat} {a b : UInt64} (ha : Dy i k a) (hb : Dy j n b) (hj : j ≠ 0) (h : i * (2 ^ (n + r) : Nat) = t * j * (2 ^ k : Nat)) (ht : t.natAbs ≤ 2 ^ 53) (hr : r ≤ 1000) : Dy t r (FP.ddiv a b) := by
  obtain ⟨s, c, q, ea⟩ := ha.fin
  obtain ⟨u, d, z, eb⟩ := hb.fin
  unfold Dy at ha hb ⊢
  rw [ea] at ha; rw [eb] at hb
  have ha : Whole i (.fin s c (q + k)) := ha
  have hb : Whole j (.fin u d (z + n)) := hb
  have hd : d ≠ 0 := fun e => hj ((whole_zero hb).mp e)
  rw [show FP.ddiv a b = Core.ddiv a b from rfl, val64_ddiv, ea, eb]
  show Whole t (sh r (if d = 0 then _ else roundRatio b64 (s != u) c d (q - z)))
  rw [if_neg hd]
  have pn : (0 : Int) < ((2 ^ (n + r) : Nat) : Int) := by have := Nat.two_pow_pos (n + r); omega
  have pk : (0 : Int) < ((2 ^ k : Nat) : Int) := by have := Nat.two_pow_pos k; omega
  have hn : i.natAbs * 2 ^ (n + r) = t.natAbs * j.natAbs * 2 ^ k := by
    have := congrArg Int.natAbs h
    rw [Int.natAbs_mul, Int.natAbs_mul, Int.natAbs_mul, Int.natAbs_natCast, Int.natAbs_natCast] at this
    exact this
  have e : roundRatio b64 (s != u) c d (q - z) = roundRatio b64 (s != u) t.natAbs 1 (-(r : Int)) := by
    refine roundRatio_congr (by omega) (by decide) ?_
    have g := ((whole_pe ha).trans (PE.of hn)).trans ((whole_pe hb).symm.mul t.natAbs)
    have g' : PE c (t.natAbs * d) (q - z + r) := g.cast (by omega)
    unfold PE at g'
    rw [show (q - z - -(r : Int)).toNat = (q - z + r).toNat by omega, show (-(r : Int) - (q - z)).toNat = (-(q - z + r)).toNat by omega, Nat.mul_one]
    exact g'
  rw [e]
  refine dy_rnd rfl (fun hz => ?_) ht hr
  have hi : i ≠ 0 := by
    rintro rfl
    rw [Int.zero_mul] at h
    rcases Int.mul_eq_zero.mp h.symm with q | q
    · rcases Int.mul_eq_zero.mp q with q | q
      · exact hz q
      · exact hj q
    · omega
  rw [whole_sign ha hi, whole_sign hb hj]
  have g1 : i < 0 ↔ t * j < 0 := by
    constructor
    · intro q
      have : t * j * ((2 ^ k : Nat) : Int) < 0 := by rw [← h]; exact Int.mul_neg_of_neg_of_pos q pn
      exact Int.lt_of_not_ge fun q' => by have := Int.mul_nonneg q' (Int.le_of_lt pk); omega
    · intro q
      have : i * ((2 ^ (n + r) : Nat) : Int) < 0 := by rw [h]; exact Int.mul_neg_of_neg_of_pos q pk
      exact Int.lt_of_not_ge fun q' => by have := Int.mul_nonneg q' (Int.le_of_lt pn); omega
  rcases Int.lt_or_lt_of_ne hz with ht0 | ht0 <;> rcases Int.lt_or_lt_of_ne hj with hj0 | hj0
  · have q1 := Int.mul_pos_of_neg_of_neg ht0 hj0
    have q2 : ¬ i < 0 := by rw [g1]; omega
    simp [ht0, hj0, q2]
  · have q1 := Int.mul_neg_of_neg_of_pos ht0 hj0
    have q2 : i < 0 := by rw [g1]; exact q1
    have q3 : ¬ j < 0 := by omega
    simp [ht0, q2, q3]
  · have q1 := Int.mul_neg_of_pos_of_neg ht0 hj0
    have q2 : i < 0 := by rw [g1]; exact q1
    have q3 : ¬ t < 0 := by omega
    simp [hj0, q2, q3]
  · have q1 := Int.mul_pos ht0 hj0
    have q2 : ¬ i < 0 := by rw [g1]; omega
    have q3 : ¬ t < 0 := by omega
    have q4 : ¬ j < 0 := by omega
    simp [q2, q3, q4]
theorem dy_eq {i j : Int} {k : Nat} {a b : UInt64} (ha : Dy i k a) (hb : Dy j k b) (h : i = j) : FP.dcmp a b = some .eq := by
  rw [dy_cmp ha hb, h, compare_self_int]
theorem dy_lt {i j : Int} {k : Nat} {a b : UInt64} (ha : Dy i k a) (hb : Dy j k b) (h : i < j) : FP.dcmp a b = some .lt := by
  rw [dy_cmp ha hb, (compare_lt_iff i j).mpr h]
theorem dy_gt {i j : Int} {k : Nat} {a b : UInt64} (ha : Dy i k a) (hb : Dy j k b) (h : j < i) : FP.dcmp a b = some .gt := by
  rw [dy_cmp ha hb, (compare_gt_iff i j).mpr h]
theorem dy_cast {i j : Int} {k n : Nat} {a : UInt64} (h : Dy i k a) (e : i = j) (e' : k = n) : Dy j n a := by subst e e'; exact h
theorem dy_zero : Dy 0 0 (0 : UInt64) := by
  show Whole 0 (sh 0 (val64 0)); rw [val64_zero]
  show signed false (0 * _) = 0 * _
  rw [Nat.zero_mul, Int.zero_mul]; rfl
end Jvm.OwnFP
namespace Jvm.OwnFP
open Jvm.FP Jvm.FP.Core Jvm.Free.Fl
/-! ## numbers with a bound: an int, a long, a double that is i (over 2^k), i at most N -/
def Ib (N : Nat) (i : Int) (x : Int32) : Prop := x.toInt = i ∧ i.natAbs ≤ N
def Lb (N : Nat) (i : Int) (x : Int64) : Prop := x.toInt = i ∧ i.natAbs ≤ N
def Db (N : Nat) (i : Int) (k : Nat) (a : UInt64) : Prop := Dy i k a ∧ i.natAbs ≤ N
theorem Ib.lit (N : Nat) (i : Int) (x : Int32) (h : x.toInt = i ∧ i.natAbs ≤ N := by decide) : Ib N i x := h
theorem Lb.lit (N : Nat) (i : Int) (x : Int64) (h : x.toInt = i ∧ i.natAbs ≤ N := by decide) : Lb N i x := h
theorem Ib.any (x : Int32) : Ib (2 ^ 31) x.toInt x := ⟨rfl, by have := x.toInt_lt; have := x.le_toInt; omega⟩
theorem Ib.cast {N M : Nat} {i j : Int} {x : Int32} (h : Ib N i x) (e : i = j) (g : j.natAbs ≤ M) : Ib M j x := ⟨h.1.trans e, g⟩
theorem Lb.cast {N M : Nat} {i j : Int} {x : Int64} (h : Lb N i x) (e : i = j) (g : j.natAbs ≤ M) : Lb M j x := ⟨h.1.trans e, g⟩
theorem Db.cast {N M : Nat} {i j : Int} {k : Nat} {a : UInt64} (h : Db N i k a) (e : i = j) (g : j.natAbs ≤ M) : Db M j k a := by subst e; exact ⟨h.1, g⟩
theorem bn_add {a b : Int} {N M : Nat} (h1 : a.natAbs ≤ N) (h2 : b.natAbs ≤ M) : (a + b).natAbs ≤ N + M := by omega
theorem bn_sub {a b : Int} {N M : Nat} (h1 : a.natAbs ≤ N) (h2 : b.natAbs ≤ M) : (a - b).natAbs ≤ N + M := by omega
theorem bn_mul {a b : Int} {N M : Nat} (h1 : a.natAbs ≤ N) (h2 : b.natAbs ≤ M) : (a * b).natAbs ≤ N * M := by rw [Int.natAbs_mul]; exact Nat.mul_le_mul h1 h2
section
variable {N M : Nat} {i j : Int} {k n : Nat}
theorem Ib.add {x y : Int32} (h1 : Ib N i x) (h2 : Ib M j y) (h : N + M < 2147483648) : Ib (N + M) (i + j) (x + y) := by
  obtain ⟨rfl, b1⟩ := h1
  obtain ⟨rfl, b2⟩ := h2
  have b := bn_add b1 b2
  exact ⟨Jvm.Free.XT.add32 ⟨by omega, by omega⟩, b⟩
theorem Ib.sub {x y : Int32} (h1 : Ib N i x) (h2 : Ib M j y) (h : N + M < 2147483648) : Ib (N + M) (i - j) (x - y) := by
  obtain ⟨rfl, b1⟩ := h1
  obtain ⟨rfl, b2⟩ := h2
  have b := bn_sub b1 b2
  exact ⟨Jvm.Free.XT.sub32 ⟨by omega, by omega⟩, b⟩
theorem Ib.mul {x y : Int32} (h1 : Ib N i x) (h2 : Ib M j y) (h : N * M < 2147483648) : Ib (N * M) (i * j) (x * y) := by
  obtain ⟨rfl, b1⟩ := h1
  obtain ⟨rfl, b2⟩ := h2
  have b := bn_mul b1 b2
  exact ⟨Jvm.Free.XT.mul32 ⟨by omega, by omega⟩, b⟩
theorem Lb.add {x y : Int64} (h1 : Lb N i x) (h2 : Lb M j y) (h : N + M < 9223372036854775808) : Lb (N + M) (i + j) (x + y) := by
  obtain ⟨rfl, b1⟩ := h1
  obtain ⟨rfl, b2⟩ := h2
  have b := bn_add b1 b2
  exact ⟨Jvm.Free.XT.add64 ⟨by omega, by omega⟩, b⟩
theorem Lb.sub {x y : Int64} (h1 : Lb N i x) (h2 : Lb M j y) (h : N + M < 9223372036854775808) : Lb (N + M) (i - j) (x - y) := by
  obtain ⟨rfl, b1⟩ := h1
  obtain ⟨rfl, b2⟩ := h2
  have b := bn_sub b1 b2
  exact ⟨Jvm.Free.XT.sub64 ⟨by omega, by omega⟩, b⟩
theorem Lb.mul {x y : Int64} (h1 : Lb N i x) (h2 : Lb M j y) (h : N * M < 9223372036854775808) : Lb (N * M) (i * j) (x * y) := by
  obtain ⟨rfl, b1⟩ := h1
  obtain ⟨rfl, b2⟩ := h2
  have b := bn_mul b1 b2
  exact ⟨Jvm.Free.XT.mul64 ⟨by omega, by omega⟩, b⟩
theorem Lb.neg {x : Int64} (h1 : Lb N i x) (h : N < 9223372036854775808) : Lb N (-i) (-x) := by
  obtain ⟨rfl, h2⟩ := h1
  exact ⟨int64_neg (by omega), by omega⟩
theorem Ib.i2l {x : Int32} (h : Ib N i x) : Lb N i x.toInt64 := ⟨(Int32.toInt_toInt64 x).trans h.1, h.2⟩
theorem Lb.l2i {x : Int64} (h : Lb N i x) (hN : N < 2147483648) : Ib N i x.toInt32 := by
  obtain ⟨rfl, h2⟩ := h
  exact ⟨int64_toInt32 (by omega) (by omega), h2⟩
theorem Ib.i2d {x : Int32} (h : Ib N i x) : Db N i 0 (FP.i2d x) := by obtain ⟨rfl, h2⟩ := h; exact ⟨dy_i2d x, h2⟩
theorem Lb.l2d {x : Int64} (h : Lb N i x) (hN : N ≤ 9007199254740992) : Db N i 0 (FP.l2d x) := by obtain ⟨rfl, h2⟩ := h; exact ⟨dy_l2d (Nat.le_trans h2 hN), h2⟩
theorem Db.nn {a : UInt64} (h : Db N i k a) : NoNaN64 a := h.1.nn
theorem Db.add {a b : UInt64} (h1 : Db N i k a) (h2 : Db M j k b) (h : N + M ≤ 9007199254740992 ∧ k ≤ 1000) : Db (N + M) (i + j) k (FP.dadd a b) :=
  ⟨dy_add h1.1 h2.1 (Nat.le_trans (bn_add h1.2 h2.2) h.1) h.2, bn_add h1.2 h2.2⟩
theorem Db.sub {a b : UInt64} (h1 : Db N i k a) (h2 : Db M j k b) (h : N + M ≤ 9007199254740992 ∧ k ≤ 1000) : Db (N + M) (i - j) k (FP.dsub a b) :=
  ⟨dy_sub h1.1 h2.1 (Nat.le_trans (bn_sub h1.2 h2.2) h.1) h.2, bn_sub h1.2 h2.2⟩
theorem Db.mul {a b : UInt64} (h1 : Db N i k a) (h2 : Db M j n b) (h : N * M ≤ 9007199254740992 ∧ k + n ≤ 1000) : Db (N * M) (i * j) (k + n) (FP.dmul a b) :=
  ⟨dy_mul h1.1 h2.1 (Nat.le_trans (bn_mul h1.2 h2.2) h.1) h.2, bn_mul h1.2 h2.2⟩
theorem Db.neg {a : UInt64} (h1 : Db N i k a) : Db N (-i) k (FP.dneg a) := ⟨dy_neg h1.1, by have := h1.2; omega⟩
theorem Db.eq {a b : UInt64} (h1 : Db N i k a) (h2 : Db M j k b) (e : i = j) : FP.dcmp a b = some .eq := dy_eq h1.1 h2.1 e
theorem Db.up {a : UInt64} (h : Db N i k a) (n : Nat) : Db (N * 2 ^ n) (i * (2 ^ n : Nat)) (k + n) a := ⟨dy_up n h.1, by rw [Int.natAbs_mul, Int.natAbs_natCast]; exact Nat.mul_le_mul_right _ h.2⟩
theorem Db.zero : Db 0 0 0 (0 : UInt64) := ⟨dy_zero, Nat.le_refl _⟩
theorem Db.div2 {a b : UInt64} (e : Nat) (h1 : Db N i k a) (h2 : Db M ((2 ^ e : Nat) : Int) 0 b) (h : N ≤ 9007199254740992 ∧ k + e ≤ 1000) : Db N i (k + e) (FP.ddiv a b) := by
  refine ⟨dy_div h1.1 h2.1 (by have := Nat.two_pow_pos e; omega) ?_ (Nat.le_trans h1.2 h.1) h.2, h1.2⟩
  rw [Nat.zero_add, Nat.pow_add, Int.natCast_mul, Int.mul_assoc, Int.mul_comm ((2 ^ k : Nat) : Int)]
theorem Db.lit {a : UInt64} (s : Bool) (c : Nat) (q : Int) (N : Nat) (i : Int) (k : Nat) (e : val64 a = .fin s c q) (w : signed s (c * 2 ^ (q + k).toNat) = i * ((2 ^ (-(q + (k : Int))).toNat : Nat) : Int) ∧ i.natAbs ≤ N) : Db N i k a := by
  refine ⟨?_, w.2⟩
  unfold Dy; rw [e]; exact w.1
theorem Ib.re {x : Int32} (h : Ib N i x) : Ib N x.toInt x := ⟨rfl, by rw [h.1]; exact h.2⟩
theorem Lb.re {x : Int64} (h : Lb N i x) : Lb N x.toInt x := ⟨rfl, by rw [h.1]; exact h.2⟩
theorem Db.weak {M : Nat} {a : UInt64} (h : Db N i k a) (q : N ≤ M) : Db M i k a := ⟨h.1, Nat.le_trans h.2 q⟩
theorem Lb.weak {M : Nat} {a : Int64} (h : Lb N i a) (q : N ≤ M) : Lb M i a := ⟨h.1, Nat.le_trans h.2 q⟩
theorem Ib.weak {M : Nat} {a : Int32} (h : Ib N i a) (q : N ≤ M) : Ib M i a := ⟨h.1, Nat.le_trans h.2 q⟩
end
end Jvm.OwnFP
namespace Jvm.OwnPlain
open Jvm.OwnFP
theorem own_and (x m : Int32) (k : Nat) (hk : k ≤ 31) (hm : m.toBitVec.toNat = 2 ^ k - 1) (N : Nat) (hN : 2 ^ k ≤ N + 1) : Ib N (x &&& m).toInt (x &&& m) := ⟨rfl, by
  have h := Jvm.RoadKit.c_mask x m k hk hm
  have p : (0 : Int) < ((2 ^ k : Nat) : Int) := by have := Nat.two_pow_pos k; omega
  have := Int.emod_nonneg x.toInt (Int.ne_of_gt p); have := Int.emod_lt_of_pos x.toInt p; omega⟩
theorem own_andL (x m : Int64) (k : Nat) (hk : k ≤ 63) (hm : m.toBitVec.toNat = 2 ^ k - 1) (N : Nat) (hN : 2 ^ k ≤ N + 1) : Lb N (x &&& m).toInt (x &&& m) := ⟨rfl, by
  have h := Jvm.RoadKit.c_maskL x m k hk hm
  have p : (0 : Int) < ((2 ^ k : Nat) : Int) := by have := Nat.two_pow_pos k; omega
  have := Int.emod_nonneg x.toInt (Int.ne_of_gt p); have := Int.emod_lt_of_pos x.toInt p; omega⟩
end Jvm.OwnPlain
namespace Jvm.Pilot.@@N@@
open Jvm Jvm.ClassFile Sem Op Lib Jvm.Free Jvm.Stand Jvm.LawKit Jvm.RoadKit Bundle Jvm.Pilot.@@N@@.Jvm.D Jvm.OwnGo
theorem wd {a0 : Array Value} {Z : State} (hw : ∀ d ∈ tables_1, d.before a0 Z = true) (k : Nat) (d : Jvm.Cond) (hd : tables_1[k]? = some d) : d.before a0 Z = true := hw _ (List.mem_of_getElem? hd)
theorem pn_law : plainFor x = true := plainFor_of_name (by show plainName "com/example/entalpi/entalpi/fluids/DerivativesStiffnessSlopePinLaw" = true; first | (simp [plainName, overriddenIn]; done) | decide +kernel)
open Jvm.OwnPlain Jvm.OwnFP
theorem d0_0 : decode prog_7_method_1_code 0 = .ok (.aload_n 0, 1) := by decide +kernel
theorem d0_1 : decode prog_7_method_1_code 1 = .ok (.invokespecial 1, 3) := by decide +kernel
theorem d0_4 : decode prog_7_method_1_code 4 = .ok (.return_, 1) := by decide +kernel
theorem pd_0 : parseMethodDescriptor "()V" = some ⟨[], none⟩ := by decide +kernel
theorem pn_0 : plainFor (⟨"com/example/entalpi/entalpi/fluids/Derivatives", "<init>", "()V"⟩ : MethodName) = true := plainFor_of_name (by show plainName "com/example/entalpi/entalpi/fluids/Derivatives" = true; first | (simp [plainName, overriddenIn]; done) | decide +kernel)
set_option maxRecDepth 65536 in
set_option maxHeartbeats 40000000 in
theorem rm_init (l : Launch) (Z : State) (a0 : Array Value) (hw : ∀ d ∈ tables_1, d.before a0 Z = true) (ws : List Jvm.Cond) (a1 : Addr) (h0 : Heap) (n0 : Nat) (Z0 : n0 ≤ h0.size)  :
    Ct l Z (⟨"com/example/entalpi/entalpi/fluids/Derivatives", "<init>", "()V"⟩ : MethodName) prog_7_method_1_code 1 none ws ({ frames := 1, cells := 0, slots := 0, locals := 12 } : Room) #[.ref a1] h0 (fun v h L => v = none ∧ Fr n0 L ∧ h = h0) := by
  refine Ct.intro pn_0 #[.val (.ref a1)] (fun _ => by first | (simp [entryFrame, mkF, argsToLocals, Value.category, maxLocals]; done) | rfl) ?_
  intro p e s m below meth c T0 X0 hx hZ hby hml hown hnm hret hlk e0
  have N0 := Fr.nil n0
  refine s_aloadN X0 hx (hb hby d0_0) rfl rfl 1 rfl ?_
  obtain ⟨T1, X1, e1, st1⟩ := initO X0 hx hZ hown (wd hw 8 _ rfl) (wd hw 9 _ rfl) (wd hw 10 _ rfl) e0 (g := (mkF m 1 #[.val (.ref a1)] [.ref a1])) rfl (by rw [hml]; rfl) rfl (hb hby d0_1) (by decide) (W := 0) (by show 2 * 0 + _ ≤ _; exact Nat.le_of_eq rfl) (by decide)
  refine Go.via st1 ?_
  show Go p e below _ (T1.setTop (mkF m 4 #[.val (.ref a1)] []))
  exact retV X1 hx hlk hret (hb hby d0_4) e1 ⟨rfl, N0, rfl⟩ (by decide) (by decide)
theorem d4_0 : decode prog_7_method_5_code 0 = .ok (.ldc2_w 31, 3) := by decide +kernel
theorem d4_3 : decode prog_7_method_5_code 3 = .ok (.aload_n 0, 1) := by decide +kernel
theorem d4_4 : decode prog_7_method_5_code 4 = .ok (.getfield 19, 3) := by decide +kernel
theorem d4_7 : decode prog_7_method_5_code 7 = .ok (.dmul, 1) := by decide +kernel
theorem d4_8 : decode prog_7_method_5_code 8 = .ok (.ldc2_w 35, 3) := by decide +kernel
theorem d4_11 : decode prog_7_method_5_code 11 = .ok (.aload_n 0, 1) := by decide +kernel
theorem d4_12 : decode prog_7_method_5_code 12 = .ok (.getfield 22, 3) := by decide +kernel
theorem d4_15 : decode prog_7_method_5_code 15 = .ok (.dmul, 1) := by decide +kernel
theorem d4_16 : decode prog_7_method_5_code 16 = .ok (.dadd, 1) := by decide +kernel
theorem d4_17 : decode prog_7_method_5_code 17 = .ok (.aload_n 0, 1) := by decide +kernel
theorem d4_18 : decode prog_7_method_5_code 18 = .ok (.getfield 28, 3) := by decide +kernel
theorem d4_21 : decode prog_7_method_5_code 21 = .ok (.dadd, 1) := by decide +kernel
theorem d4_22 : decode prog_7_method_5_code 22 = .ok (.dreturn, 1) := by decide +kernel
theorem pd_4 : parseMethodDescriptor "()D" = some ⟨[], some .double⟩ := by decide +kernel
theorem pn_4 : plainFor (⟨"com/example/entalpi/entalpi/fluids/Derivatives", "stiffnessSlope", "()D"⟩ : MethodName) = true := plainFor_of_name (by show plainName "com/example/entalpi/entalpi/fluids/Derivatives" = true; first | (simp [plainName, overriddenIn]; done) | decide +kernel)
theorem dc_4611686018427387904 : Jvm.OwnFP.Db 2 (2) 0 (4611686018427387904 : UInt64) := Jvm.OwnFP.Db.lit false 4503599627370496 (-51) 2 (2) 0 (by decide +kernel) (by decide +kernel)
theorem dc_4616189618054758400 : Jvm.OwnFP.Db 4 (4) 0 (4616189618054758400 : UInt64) := Jvm.OwnFP.Db.lit false 4503599627370496 (-50) 4 (4) 0 (by decide +kernel) (by decide +kernel)
set_option maxRecDepth 65536 in
set_option maxHeartbeats 40000000 in
theorem rm_slope (l : Launch) (Z : State) (a0 : Array Value) (hw : ∀ d ∈ tables_1, d.before a0 Z = true) (ws : List Jvm.Cond) (a1 : Addr) (f4 f5 f7 : UInt64) (A4 A5 A7 : Int) (h0 : Heap) (n0 : Nat) (Z0 : n0 ≤ h0.size) (F_4 : Fld Z h0 a1 "com/example/entalpi/entalpi/fluids/Derivatives" "deltaResidualDelta" "D" (.double f4)) (F_5 : Fld Z h0 a1 "com/example/entalpi/entalpi/fluids/Derivatives" "deltaDeltaResidualDeltaDelta" "D" (.double f5)) (F_7 : Fld Z h0 a1 "com/example/entalpi/entalpi/fluids/Derivatives" "deltaDeltaDeltaResidualDeltaDeltaDelta" "D" (.double f7)) (H_4 : Db 562949953421312 A4 0 f4) (H_5 : Db 562949953421312 A5 0 f5) (H_7 : Db 562949953421312 A7 0 f7) :
    Ct l Z (⟨"com/example/entalpi/entalpi/fluids/Derivatives", "stiffnessSlope", "()D"⟩ : MethodName) prog_7_method_5_code 1 (some .double) ws ({ frames := 0, cells := 0, slots := 0, locals := 0 } : Room) #[.ref a1] h0 (fun v h L => ∃ r, v = some (.double r) ∧ Fr n0 L ∧ h = h0 ∧ Db 9007199254740992 (2 * A4 + 4 * A5 + A7) 0 r) := by
  refine Ct.intro pn_4 #[.val (.ref a1)] (fun _ => by first | (simp [entryFrame, mkF, argsToLocals, Value.category, maxLocals]; done) | rfl) ?_
  intro p e s m below meth c T0 X0 hx hZ hby hml hown hnm hret hlk e0
  have N0 := Fr.nil n0
  refine s_ldc2D X0 hx (hb hby d4_0) hZ hown (wd hw 30 _ rfl) 3 rfl ?_
  refine s_aloadN X0 hx (hb hby d4_3) rfl rfl 4 rfl ?_
  obtain ⟨T2, X2, e2, st2⟩ := getF X0 hx hZ hown (host := "") (Or.inl (wd hw 22 _ rfl)) Via.refl e0 F_4 (g := (mkF m 4 #[.val (.ref a1)] [.ref a1, .double (4611686018427387904 : UInt64)])) rfl rfl (hb hby d4_4)
  refine Go.via st2 ?_
  show Go p e below _ (T2.setTop (mkF m 7 #[.val (.ref a1)] [.double f4, .double (4611686018427387904 : UInt64)]))
  have Dd3 := Db.mul dc_4611686018427387904 H_4 (by decide)
  obtain ⟨d3, h_d3⟩ : ∃ v, FP.dmul (4611686018427387904 : UInt64) f4 = v := ⟨_, rfl⟩
  rw [h_d3] at Dd3
  refine s_dmul X2 hx (hb hby d4_7) d3 h_d3 Dd3.nn 8 rfl ?_
  refine s_ldc2D X2 hx (hb hby d4_8) hZ hown (wd hw 42 _ rfl) 11 rfl ?_
  refine s_aloadN X2 hx (hb hby d4_11) rfl rfl 12 rfl ?_
  obtain ⟨T4, X4, e4, st4⟩ := getF X2 hx hZ hown (host := "") (Or.inl (wd hw 24 _ rfl)) Via.refl e2 F_5 (g := (mkF m 12 #[.val (.ref a1)] [.ref a1, .double (4616189618054758400 : UInt64), .double d3])) rfl rfl (hb hby d4_12)
  refine Go.via st4 ?_
  show Go p e below _ (T4.setTop (mkF m 15 #[.val (.ref a1)] [.double f5, .double (4616189618054758400 : UInt64), .double d3]))
  have Dd5 := Db.mul dc_4616189618054758400 H_5 (by decide)
  obtain ⟨d5, h_d5⟩ : ∃ v, FP.dmul (4616189618054758400 : UInt64) f5 = v := ⟨_, rfl⟩
  rw [h_d5] at Dd5
  refine s_dmul X4 hx (hb hby d4_15) d5 h_d5 Dd5.nn 16 rfl ?_
  have Dd6 := Db.add Dd3 Dd5 (by decide)
  obtain ⟨d6, h_d6⟩ : ∃ v, FP.dadd d3 d5 = v := ⟨_, rfl⟩
  rw [h_d6] at Dd6
  refine s_dadd X4 hx (hb hby d4_16) d6 h_d6 Dd6.nn 17 rfl ?_
  refine s_aloadN X4 hx (hb hby d4_17) rfl rfl 18 rfl ?_
  obtain ⟨T7, X7, e7, st7⟩ := getF X4 hx hZ hown (host := "") (Or.inl (wd hw 28 _ rfl)) Via.refl e4 F_7 (g := (mkF m 18 #[.val (.ref a1)] [.ref a1, .double d6])) rfl rfl (hb hby d4_18)
  refine Go.via st7 ?_
  show Go p e below _ (T7.setTop (mkF m 21 #[.val (.ref a1)] [.double f7, .double d6]))
  have Dd8 := Db.add Dd6 H_7 (by decide)
  obtain ⟨d8, h_d8⟩ : ∃ v, FP.dadd d6 f7 = v := ⟨_, rfl⟩
  rw [h_d8] at Dd8
  refine s_dadd X7 hx (hb hby d4_21) d8 h_d8 Dd8.nn 22 rfl ?_
  exact retD X7 hx hlk hret (hb hby d4_22) e7 ⟨_, rfl, N0, rfl, Dd8.weak (by decide)⟩ (by decide) (by decide)
theorem d2_0 : decode prog_7_method_2_code 0 = .ok (.aload_n 0, 1) := by decide +kernel
theorem d2_1 : decode prog_7_method_2_code 1 = .ok (.dup, 1) := by decide +kernel
theorem d2_2 : decode prog_7_method_2_code 2 = .ok (.getfield 7, 3) := by decide +kernel
theorem d2_5 : decode prog_7_method_2_code 5 = .ok (.dload_n 1, 1) := by decide +kernel
theorem d2_6 : decode prog_7_method_2_code 6 = .ok (.dadd, 1) := by decide +kernel
theorem d2_7 : decode prog_7_method_2_code 7 = .ok (.putfield 7, 3) := by decide +kernel
theorem d2_10 : decode prog_7_method_2_code 10 = .ok (.aload_n 0, 1) := by decide +kernel
theorem d2_11 : decode prog_7_method_2_code 11 = .ok (.dup, 1) := by decide +kernel
theorem d2_12 : decode prog_7_method_2_code 12 = .ok (.getfield 13, 3) := by decide +kernel
theorem d2_15 : decode prog_7_method_2_code 15 = .ok (.dload 9, 2) := by decide +kernel
theorem d2_17 : decode prog_7_method_2_code 17 = .ok (.dload_n 1, 1) := by decide +kernel
theorem d2_18 : decode prog_7_method_2_code 18 = .ok (.dmul, 1) := by decide +kernel
theorem d2_19 : decode prog_7_method_2_code 19 = .ok (.dadd, 1) := by decide +kernel
theorem d2_20 : decode prog_7_method_2_code 20 = .ok (.putfield 13, 3) := by decide +kernel
theorem d2_23 : decode prog_7_method_2_code 23 = .ok (.aload_n 0, 1) := by decide +kernel
theorem d2_24 : decode prog_7_method_2_code 24 = .ok (.dup, 1) := by decide +kernel
theorem d2_25 : decode prog_7_method_2_code 25 = .ok (.getfield 16, 3) := by decide +kernel
theorem d2_28 : decode prog_7_method_2_code 28 = .ok (.dload 9, 2) := by decide +kernel
theorem d2_30 : decode prog_7_method_2_code 30 = .ok (.dload 9, 2) := by decide +kernel
theorem d2_32 : decode prog_7_method_2_code 32 = .ok (.dconst 1, 1) := by decide +kernel
theorem d2_33 : decode prog_7_method_2_code 33 = .ok (.dsub, 1) := by decide +kernel
theorem d2_34 : decode prog_7_method_2_code 34 = .ok (.dmul, 1) := by decide +kernel
theorem d2_35 : decode prog_7_method_2_code 35 = .ok (.dload 11, 2) := by decide +kernel
theorem d2_37 : decode prog_7_method_2_code 37 = .ok (.dadd, 1) := by decide +kernel
theorem d2_38 : decode prog_7_method_2_code 38 = .ok (.dload_n 1, 1) := by decide +kernel
theorem d2_39 : decode prog_7_method_2_code 39 = .ok (.dmul, 1) := by decide +kernel
theorem d2_40 : decode prog_7_method_2_code 40 = .ok (.dadd, 1) := by decide +kernel
theorem d2_41 : decode prog_7_method_2_code 41 = .ok (.putfield 16, 3) := by decide +kernel
theorem d2_44 : decode prog_7_method_2_code 44 = .ok (.aload_n 0, 1) := by decide +kernel
theorem d2_45 : decode prog_7_method_2_code 45 = .ok (.dup, 1) := by decide +kernel
theorem d2_46 : decode prog_7_method_2_code 46 = .ok (.getfield 19, 3) := by decide +kernel
theorem d2_49 : decode prog_7_method_2_code 49 = .ok (.dload_n 3, 1) := by decide +kernel
theorem d2_50 : decode prog_7_method_2_code 50 = .ok (.dload_n 1, 1) := by decide +kernel
theorem d2_51 : decode prog_7_method_2_code 51 = .ok (.dmul, 1) := by decide +kernel
theorem d2_52 : decode prog_7_method_2_code 52 = .ok (.dadd, 1) := by decide +kernel
theorem d2_53 : decode prog_7_method_2_code 53 = .ok (.putfield 19, 3) := by decide +kernel
theorem d2_56 : decode prog_7_method_2_code 56 = .ok (.aload_n 0, 1) := by decide +kernel
theorem d2_57 : decode prog_7_method_2_code 57 = .ok (.dup, 1) := by decide +kernel
theorem d2_58 : decode prog_7_method_2_code 58 = .ok (.getfield 22, 3) := by decide +kernel
theorem d2_61 : decode prog_7_method_2_code 61 = .ok (.dload_n 3, 1) := by decide +kernel
theorem d2_62 : decode prog_7_method_2_code 62 = .ok (.dload_n 3, 1) := by decide +kernel
theorem d2_63 : decode prog_7_method_2_code 63 = .ok (.dconst 1, 1) := by decide +kernel
theorem d2_64 : decode prog_7_method_2_code 64 = .ok (.dsub, 1) := by decide +kernel
theorem d2_65 : decode prog_7_method_2_code 65 = .ok (.dmul, 1) := by decide +kernel
theorem d2_66 : decode prog_7_method_2_code 66 = .ok (.dload 5, 2) := by decide +kernel
theorem d2_68 : decode prog_7_method_2_code 68 = .ok (.dadd, 1) := by decide +kernel
theorem d2_69 : decode prog_7_method_2_code 69 = .ok (.dload_n 1, 1) := by decide +kernel
theorem d2_70 : decode prog_7_method_2_code 70 = .ok (.dmul, 1) := by decide +kernel
theorem d2_71 : decode prog_7_method_2_code 71 = .ok (.dadd, 1) := by decide +kernel
theorem d2_72 : decode prog_7_method_2_code 72 = .ok (.putfield 22, 3) := by decide +kernel
theorem d2_75 : decode prog_7_method_2_code 75 = .ok (.aload_n 0, 1) := by decide +kernel
theorem d2_76 : decode prog_7_method_2_code 76 = .ok (.dup, 1) := by decide +kernel
theorem d2_77 : decode prog_7_method_2_code 77 = .ok (.getfield 25, 3) := by decide +kernel
theorem d2_80 : decode prog_7_method_2_code 80 = .ok (.dload 9, 2) := by decide +kernel
theorem d2_82 : decode prog_7_method_2_code 82 = .ok (.dload_n 3, 1) := by decide +kernel
theorem d2_83 : decode prog_7_method_2_code 83 = .ok (.dmul, 1) := by decide +kernel
theorem d2_84 : decode prog_7_method_2_code 84 = .ok (.dload_n 1, 1) := by decide +kernel
theorem d2_85 : decode prog_7_method_2_code 85 = .ok (.dmul, 1) := by decide +kernel
theorem d2_86 : decode prog_7_method_2_code 86 = .ok (.dadd, 1) := by decide +kernel
theorem d2_87 : decode prog_7_method_2_code 87 = .ok (.putfield 25, 3) := by decide +kernel
theorem d2_90 : decode prog_7_method_2_code 90 = .ok (.aload_n 0, 1) := by decide +kernel
theorem d2_91 : decode prog_7_method_2_code 91 = .ok (.dup, 1) := by decide +kernel
theorem d2_92 : decode prog_7_method_2_code 92 = .ok (.getfield 28, 3) := by decide +kernel
theorem d2_95 : decode prog_7_method_2_code 95 = .ok (.dload_n 3, 1) := by decide +kernel
theorem d2_96 : decode prog_7_method_2_code 96 = .ok (.dload_n 3, 1) := by decide +kernel
theorem d2_97 : decode prog_7_method_2_code 97 = .ok (.dconst 1, 1) := by decide +kernel
theorem d2_98 : decode prog_7_method_2_code 98 = .ok (.dsub, 1) := by decide +kernel
theorem d2_99 : decode prog_7_method_2_code 99 = .ok (.dmul, 1) := by decide +kernel
theorem d2_100 : decode prog_7_method_2_code 100 = .ok (.dload_n 3, 1) := by decide +kernel
theorem d2_101 : decode prog_7_method_2_code 101 = .ok (.ldc2_w 31, 3) := by decide +kernel
theorem d2_104 : decode prog_7_method_2_code 104 = .ok (.dsub, 1) := by decide +kernel
theorem d2_105 : decode prog_7_method_2_code 105 = .ok (.dmul, 1) := by decide +kernel
theorem d2_106 : decode prog_7_method_2_code 106 = .ok (.ldc2_w 33, 3) := by decide +kernel
theorem d2_109 : decode prog_7_method_2_code 109 = .ok (.dload_n 3, 1) := by decide +kernel
theorem d2_110 : decode prog_7_method_2_code 110 = .ok (.dconst 1, 1) := by decide +kernel
theorem d2_111 : decode prog_7_method_2_code 111 = .ok (.dsub, 1) := by decide +kernel
theorem d2_112 : decode prog_7_method_2_code 112 = .ok (.dmul, 1) := by decide +kernel
theorem d2_113 : decode prog_7_method_2_code 113 = .ok (.dload 5, 2) := by decide +kernel
theorem d2_115 : decode prog_7_method_2_code 115 = .ok (.dmul, 1) := by decide +kernel
theorem d2_116 : decode prog_7_method_2_code 116 = .ok (.dadd, 1) := by decide +kernel
theorem d2_117 : decode prog_7_method_2_code 117 = .ok (.dload 7, 2) := by decide +kernel
theorem d2_119 : decode prog_7_method_2_code 119 = .ok (.dadd, 1) := by decide +kernel
theorem d2_120 : decode prog_7_method_2_code 120 = .ok (.dload_n 1, 1) := by decide +kernel
theorem d2_121 : decode prog_7_method_2_code 121 = .ok (.dmul, 1) := by decide +kernel
theorem d2_122 : decode prog_7_method_2_code 122 = .ok (.dadd, 1) := by decide +kernel
theorem d2_123 : decode prog_7_method_2_code 123 = .ok (.putfield 28, 3) := by decide +kernel
theorem d2_126 : decode prog_7_method_2_code 126 = .ok (.return_, 1) := by decide +kernel
theorem pd_2 : parseMethodDescriptor "(DDDDDD)V" = some ⟨[.double, .double, .double, .double, .double, .double], none⟩ := by decide +kernel
theorem pn_2 : plainFor (⟨"com/example/entalpi/entalpi/fluids/Derivatives", "addSeparable", "(DDDDDD)V"⟩ : MethodName) = true := plainFor_of_name (by show plainName "com/example/entalpi/entalpi/fluids/Derivatives" = true; first | (simp [plainName, overriddenIn]; done) | decide +kernel)
theorem dc_4607182418800017408 : Jvm.OwnFP.Db 1 (1) 0 (4607182418800017408 : UInt64) := Jvm.OwnFP.Db.lit false 4503599627370496 (-52) 1 (1) 0 (by decide +kernel) (by decide +kernel)
theorem dc_4613937818241073152 : Jvm.OwnFP.Db 3 (3) 0 (4613937818241073152 : UInt64) := Jvm.OwnFP.Db.lit false 6755399441055744 (-51) 3 (3) 0 (by decide +kernel) (by decide +kernel)
set_option maxRecDepth 65536 in
set_option maxHeartbeats 40000000 in
theorem rm_add1 (l : Launch) (Z : State) (a0 : Array Value) (hw : ∀ d ∈ tables_1, d.before a0 Z = true) (ws : List Jvm.Cond) (a1 : Addr) (t k ks kc j js : UInt64) (T K KS KC J JS : Int) (f1 f2 f3 f4 f5 f6 f7 : UInt64) (A1 A2 A3 A4 A5 A6 A7 : Int) (h0 : Heap) (n0 : Nat) (Z0 : n0 ≤ h0.size) (E1 : Exa Z h0 a1 "com/example/entalpi/entalpi/fluids/Derivatives") (g1 : n0 ≤ a1) (F_1 : Fld Z h0 a1 "com/example/entalpi/entalpi/fluids/Derivatives" "alpha" "D" (.double f1)) (F_2 : Fld Z h0 a1 "com/example/entalpi/entalpi/fluids/Derivatives" "tauAlphaTau" "D" (.double f2)) (F_3 : Fld Z h0 a1 "com/example/entalpi/entalpi/fluids/Derivatives" "tauTauAlphaTauTau" "D" (.double f3)) (F_4 : Fld Z h0 a1 "com/example/entalpi/entalpi/fluids/Derivatives" "deltaResidualDelta" "D" (.double f4)) (F_5 : Fld Z h0 a1 "com/example/entalpi/entalpi/fluids/Derivatives" "deltaDeltaResidualDeltaDelta" "D" (.double f5)) (F_6 : Fld Z h0 a1 "com/example/entalpi/entalpi/fluids/Derivatives" "deltaTauResidualDeltaTau" "D" (.double f6)) (F_7 : Fld Z h0 a1 "com/example/entalpi/entalpi/fluids/Derivatives" "deltaDeltaDeltaResidualDeltaDeltaDelta" "D" (.double f7)) (H_1 : Db 0 A1 0 f1) (H_2 : Db 0 A2 0 f2) (H_3 : Db 0 A3 0 f3) (H_4 : Db 0 A4 0 f4) (H_5 : Db 0 A5 0 f5) (H_6 : Db 0 A6 0 f6) (H_7 : Db 0 A7 0 f7) (H_t : Db 32768 T 0 t) (H_k : Db 256 K 0 k) (H_ks : Db 32768 KS 0 ks) (H_kc : Db 2147483648 KC 0 kc) (H_j : Db 32768 J 0 j) (H_js : Db 2147483648 JS 0 js) :
    Ct l Z (⟨"com/example/entalpi/entalpi/fluids/Derivatives", "addSeparable", "(DDDDDD)V"⟩ : MethodName) prog_7_method_2_code 13 none ws ({ frames := 0, cells := 0, slots := 0, locals := 0 } : Room) #[.ref a1, .double t, .double k, .double ks, .double kc, .double j, .double js] h0 (fun v h L => v = none ∧ Fr n0 L ∧ Keep h0 h [a1] ∧ ∃ r1 r2 r3 r4 r5 r6 r7, (Fld Z h a1 "com/example/entalpi/entalpi/fluids/Derivatives" "alpha" "D" (.double r1) ∧ Db 281474976710656 (A1 + T) 0 r1) ∧ (Fld Z h a1 "com/example/entalpi/entalpi/fluids/Derivatives" "tauAlphaTau" "D" (.double r2) ∧ Db 281474976710656 (A2 + J * T) 0 r2) ∧ (Fld Z h a1 "com/example/entalpi/entalpi/fluids/Derivatives" "tauTauAlphaTauTau" "D" (.double r3) ∧ Db 281474976710656 (A3 + (J * (J - 1) + JS) * T) 0 r3) ∧ (Fld Z h a1 "com/example/entalpi/entalpi/fluids/Derivatives" "deltaResidualDelta" "D" (.double r4) ∧ Db 281474976710656 (A4 + K * T) 0 r4) ∧ (Fld Z h a1 "com/example/entalpi/entalpi/fluids/Derivatives" "deltaDeltaResidualDeltaDelta" "D" (.double r5) ∧ Db 281474976710656 (A5 + (K * (K - 1) + KS) * T) 0 r5) ∧ (Fld Z h a1 "com/example/entalpi/entalpi/fluids/Derivatives" "deltaTauResidualDeltaTau" "D" (.double r6) ∧ Db 281474976710656 (A6 + J * K * T) 0 r6) ∧ (Fld Z h a1 "com/example/entalpi/entalpi/fluids/Derivatives" "deltaDeltaDeltaResidualDeltaDeltaDelta" "D" (.double r7) ∧ Db 281474976710656 (A7 + (K * (K - 1) * (K - 2) + 3 * (K - 1) * KS + KC) * T) 0 r7)) := by
  refine Ct.intro pn_2 #[.val (.ref a1), .val (.double t), .second, .val (.double k), .second, .val (.double ks), .second, .val (.double kc), .second, .val (.double j), .second, .val (.double js), .second] (fun _ => by first | (simp [entryFrame, mkF, argsToLocals, Value.category, maxLocals]; done) | rfl) ?_
  intro p e s m below meth c T0 X0 hx hZ hby hml hown hnm hret hlk e0
  have N0 := Fr.nil n0
  have K0 := Keep.refl h0 [a1]
  refine s_aloadN X0 hx (hb hby d2_0) rfl rfl 1 rfl ?_
  refine s_dup X0 hx (hb hby d2_1) rfl 2 rfl ?_
  obtain ⟨T9, X9, e9, st9⟩ := getF X0 hx hZ hown (host := "") (Or.inl (wd hw 16 _ rfl)) Via.refl e0 F_1 (g := (mkF m 2 #[.val (.ref a1), .val (.double t), .second, .val (.double k), .second, .val (.double ks), .second, .val (.double kc), .second, .val (.double j), .second, .val (.double js), .second] [.ref a1, .ref a1])) rfl rfl (hb hby d2_2)
  refine Go.via st9 ?_
  show Go p e below _ (T9.setTop (mkF m 5 #[.val (.ref a1), .val (.double t), .second, .val (.double k), .second, .val (.double ks), .second, .val (.double kc), .second, .val (.double j), .second, .val (.double js), .second] [.double f1, .ref a1]))
  refine s_dloadN X9 hx (hb hby d2_5) rfl 6 rfl ?_
  have Dd10 := Db.add H_1 H_t (by decide)
  obtain ⟨d10, h_d10⟩ : ∃ v, FP.dadd f1 t = v := ⟨_, rfl⟩
  rw [h_d10] at Dd10
  refine s_dadd X9 hx (hb hby d2_6) d10 h_d10 Dd10.nn 7 rfl ?_
  obtain ⟨T11, h11, X11, e11, W11, st11⟩ := putF X9 hx hZ hown (host := "") (Or.inl (wd hw 16 _ rfl)) Via.refl e9 F_1 E1 (Or.inl (wd hw 17 _ rfl)) (wd hw 3 _ rfl) (ty := .double) (by decide) rfl rfl (g := (mkF m 7 #[.val (.ref a1), .val (.double t), .second, .val (.double k), .second, .val (.double ks), .second, .val (.double kc), .second, .val (.double j), .second, .val (.double js), .second] [.double d10, .ref a1])) rfl rfl (hb hby d2_7)
  have N11 := Fr.snoc X11 N0 g1
  have F12 := F_1.same W11
  have F13 := E1.wr W11
  have F14 := F_2.other W11 (Or.inr (slot_ne (a0 := a0) (t := .double) (t' := .double) (Or.inl (wd hw 19 _ rfl)) (Or.inl (wd hw 17 _ rfl)) (by decide) (by decide) (by decide)))
  have F15 := F_3.other W11 (Or.inr (slot_ne (a0 := a0) (t := .double) (t' := .double) (Or.inl (wd hw 21 _ rfl)) (Or.inl (wd hw 17 _ rfl)) (by decide) (by decide) (by decide)))
  have F16 := F_4.other W11 (Or.inr (slot_ne (a0 := a0) (t := .double) (t' := .double) (Or.inl (wd hw 23 _ rfl)) (Or.inl (wd hw 17 _ rfl)) (by decide) (by decide) (by decide)))
  have F17 := F_5.other W11 (Or.inr (slot_ne (a0 := a0) (t := .double) (t' := .double) (Or.inl (wd hw 25 _ rfl)) (Or.inl (wd hw 17 _ rfl)) (by decide) (by decide) (by decide)))
  have F18 := F_6.other W11 (Or.inr (slot_ne (a0 := a0) (t := .double) (t' := .double) (Or.inl (wd hw 27 _ rfl)) (Or.inl (wd hw 17 _ rfl)) (by decide) (by decide) (by decide)))
  have F19 := F_7.other W11 (Or.inr (slot_ne (a0 := a0) (t := .double) (t' := .double) (Or.inl (wd hw 29 _ rfl)) (Or.inl (wd hw 17 _ rfl)) (by decide) (by decide) (by decide)))
  have Z20 : n0 ≤ h11.size := by rw [W11.size]; exact Z0
  have K21 := K0.wr W11 (Or.inl (by simp))
  refine Go.via st11 ?_
  show Go p e below _ (T11.setTop (mkF m 10 #[.val (.ref a1), .val (.double t), .second, .val (.double k), .second, .val (.double ks), .second, .val (.double kc), .second, .val (.double j), .second, .val (.double js), .second] []))
  refine s_aloadN X11 hx (hb hby d2_10) rfl rfl 11 rfl ?_
  refine s_dup X11 hx (hb hby d2_11) rfl 12 rfl ?_
  obtain ⟨T22, X22, e22, st22⟩ := getF X11 hx hZ hown (host := "") (Or.inl (wd hw 18 _ rfl)) Via.refl e11 F14 (g := (mkF m 12 #[.val (.ref a1), .val (.double t), .second, .val (.double k), .second, .val (.double ks), .second, .val (.double kc), .second, .val (.double j), .second, .val (.double js), .second] [.ref a1, .ref a1])) rfl rfl (hb hby d2_12)
  refine Go.via st22 ?_
  show Go p e below _ (T22.setTop (mkF m 15 #[.val (.ref a1), .val (.double t), .second, .val (.double k), .second, .val (.double ks), .second, .val (.double kc), .second, .val (.double j), .second, .val (.double js), .second] [.double f2, .ref a1]))
  refine s_dload X22 hx (hb hby d2_15) rfl 17 rfl ?_
  refine s_dloadN X22 hx (hb hby d2_17) rfl 18 rfl ?_
  have Dd23 := Db.mul H_j H_t (by decide)
  obtain ⟨d23, h_d23⟩ : ∃ v, FP.dmul j t = v := ⟨_, rfl⟩
  rw [h_d23] at Dd23
  refine s_dmul X22 hx (hb hby d2_18) d23 h_d23 Dd23.nn 19 rfl ?_
  have Dd24 := Db.add H_2 Dd23 (by decide)
  obtain ⟨d24, h_d24⟩ : ∃ v, FP.dadd f2 d23 = v := ⟨_, rfl⟩
  rw [h_d24] at Dd24
  refine s_dadd X22 hx (hb hby d2_19) d24 h_d24 Dd24.nn 20 rfl ?_
  obtain ⟨T25, h25, X25, e25, W25, st25⟩ := putF X22 hx hZ hown (host := "") (Or.inl (wd hw 18 _ rfl)) Via.refl e22 F14 F13 (Or.inl (wd hw 19 _ rfl)) (wd hw 3 _ rfl) (ty := .double) (by decide) rfl rfl (g := (mkF m 20 #[.val (.ref a1), .val (.double t), .second, .val (.double k), .second, .val (.double ks), .second, .val (.double kc), .second, .val (.double j), .second, .val (.double js), .second] [.double d24, .ref a1])) rfl rfl (hb hby d2_20)
  have N25 := Fr.snoc X25 N11 g1
  have F26 := F14.same W25
  have F27 := F13.wr W25
  have F28 := F12.other W25 (Or.inr (slot_ne (a0 := a0) (t := .double) (t' := .double) (Or.inl (wd hw 17 _ rfl)) (Or.inl (wd hw 19 _ rfl)) (by decide) (by decide) (by decide)))
  have F29 := F15.other W25 (Or.inr (slot_ne (a0 := a0) (t := .double) (t' := .double) (Or.inl (wd hw 21 _ rfl)) (Or.inl (wd hw 19 _ rfl)) (by decide) (by decide) (by decide)))
  have F30 := F16.other W25 (Or.inr (slot_ne (a0 := a0) (t := .double) (t' := .double) (Or.inl (wd hw 23 _ rfl)) (Or.inl (wd hw 19 _ rfl)) (by decide) (by decide) (by decide)))
  have F31 := F17.other W25 (Or.inr (slot_ne (a0 := a0) (t := .double) (t' := .double) (Or.inl (wd hw 25 _ rfl)) (Or.inl (wd hw 19 _ rfl)) (by decide) (by decide) (by decide)))
  have F32 := F18.other W25 (Or.inr (slot_ne (a0 := a0) (t := .double) (t' := .double) (Or.inl (wd hw 27 _ rfl)) (Or.inl (wd hw 19 _ rfl)) (by decide) (by decide) (by decide)))
  have F33 := F19.other W25 (Or.inr (slot_ne (a0 := a0) (t := .double) (t' := .double) (Or.inl (wd hw 29 _ rfl)) (Or.inl (wd hw 19 _ rfl)) (by decide) (by decide) (by decide)))
  have Z34 : n0 ≤ h25.size := by rw [W25.size]; exact Z20
  have K35 := K21.wr W25 (Or.inl (by simp))
  refine Go.via st25 ?_
  show Go p e below _ (T25.setTop (mkF m 23 #[.val (.ref a1), .val (.double t), .second, .val (.double k), .second, .val (.double ks), .second, .val (.double kc), .second, .val (.double j), .second, .val (.double js), .second] []))
  refine s_aloadN X25 hx (hb hby d2_23) rfl rfl 24 rfl ?_
  refine s_dup X25 hx (hb hby d2_24) rfl 25 rfl ?_
  obtain ⟨T36, X36, e36, st36⟩ := getF X25 hx hZ hown (host := "") (Or.inl (wd hw 20 _ rfl)) Via.refl e25 F29 (g := (mkF m 25 #[.val (.ref a1), .val (.double t), .second, .val (.double k), .second, .val (.double ks), .second, .val (.double kc), .second, .val (.double j), .second, .val (.double js), .second] [.ref a1, .ref a1])) rfl rfl (hb hby d2_25)
  refine Go.via st36 ?_
  show Go p e below _ (T36.setTop (mkF m 28 #[.val (.ref a1), .val (.double t), .second, .val (.double k), .second, .val (.double ks), .second, .val (.double kc), .second, .val (.double j), .second, .val (.double js), .second] [.double f3, .ref a1]))
  refine s_dload X36 hx (hb hby d2_28) rfl 30 rfl ?_
  refine s_dload X36 hx (hb hby d2_30) rfl 32 rfl ?_
  refine s_dconst1 X36 hx (hb hby d2_32) (4607182418800017408 : UInt64) rfl 33 rfl ?_
  have Dd37 := Db.sub H_j dc_4607182418800017408 (by decide)
  obtain ⟨d37, h_d37⟩ : ∃ v, FP.dsub j (4607182418800017408 : UInt64) = v := ⟨_, rfl⟩
  rw [h_d37] at Dd37
  refine s_dsub X36 hx (hb hby d2_33) d37 h_d37 Dd37.nn 34 rfl ?_
  have Dd38 := Db.mul H_j Dd37 (by decide)
  obtain ⟨d38, h_d38⟩ : ∃ v, FP.dmul j d37 = v := ⟨_, rfl⟩
  rw [h_d38] at Dd38
  refine s_dmul X36 hx (hb hby d2_34) d38 h_d38 Dd38.nn 35 rfl ?_
  refine s_dload X36 hx (hb hby d2_35) rfl 37 rfl ?_
  have Dd39 := Db.add Dd38 H_js (by decide)
  obtain ⟨d39, h_d39⟩ : ∃ v, FP.dadd d38 js = v := ⟨_, rfl⟩
  rw [h_d39] at Dd39
  refine s_dadd X36 hx (hb hby d2_37) d39 h_d39 Dd39.nn 38 rfl ?_
  refine s_dloadN X36 hx (hb hby d2_38) rfl 39 rfl ?_
  have Dd40 := Db.mul Dd39 H_t (by decide)
  obtain ⟨d40, h_d40⟩ : ∃ v, FP.dmul d39 t = v := ⟨_, rfl⟩
  rw [h_d40] at Dd40
  refine s_dmul X36 hx (hb hby d2_39) d40 h_d40 Dd40.nn 40 rfl ?_
  have Dd41 := Db.add H_3 Dd40 (by decide)
  obtain ⟨d41, h_d41⟩ : ∃ v, FP.dadd f3 d40 = v := ⟨_, rfl⟩
  rw [h_d41] at Dd41
  refine s_dadd X36 hx (hb hby d2_40) d41 h_d41 Dd41.nn 41 rfl ?_
  obtain ⟨T42, h42, X42, e42, W42, st42⟩ := putF X36 hx hZ hown (host := "") (Or.inl (wd hw 20 _ rfl)) Via.refl e36 F29 F27 (Or.inl (wd hw 21 _ rfl)) (wd hw 3 _ rfl) (ty := .double) (by decide) rfl rfl (g := (mkF m 41 #[.val (.ref a1), .val (.double t), .second, .val (.double k), .second, .val (.double ks), .second, .val (.double kc), .second, .val (.double j), .second, .val (.double js), .second] [.double d41, .ref a1])) rfl rfl (hb hby d2_41)
  have N42 := Fr.snoc X42 N25 g1
  have F43 := F29.same W42
  have F44 := F27.wr W42
  have F45 := F28.other W42 (Or.inr (slot_ne (a0 := a0) (t := .double) (t' := .double) (Or.inl (wd hw 17 _ rfl)) (Or.inl (wd hw 21 _ rfl)) (by decide) (by decide) (by decide)))
  have F46 := F26.other W42 (Or.inr (slot_ne (a0 := a0) (t := .double) (t' := .double) (Or.inl (wd hw 19 _ rfl)) (Or.inl (wd hw 21 _ rfl)) (by decide) (by decide) (by decide)))
  have F47 := F30.other W42 (Or.inr (slot_ne (a0 := a0) (t := .double) (t' := .double) (Or.inl (wd hw 23 _ rfl)) (Or.inl (wd hw 21 _ rfl)) (by decide) (by decide) (by decide)))
  have F48 := F31.other W42 (Or.inr (slot_ne (a0 := a0) (t := .double) (t' := .double) (Or.inl (wd hw 25 _ rfl)) (Or.inl (wd hw 21 _ rfl)) (by decide) (by decide) (by decide)))
  have F49 := F32.other W42 (Or.inr (slot_ne (a0 := a0) (t := .double) (t' := .double) (Or.inl (wd hw 27 _ rfl)) (Or.inl (wd hw 21 _ rfl)) (by decide) (by decide) (by decide)))
  have F50 := F33.other W42 (Or.inr (slot_ne (a0 := a0) (t := .double) (t' := .double) (Or.inl (wd hw 29 _ rfl)) (Or.inl (wd hw 21 _ rfl)) (by decide) (by decide) (by decide)))
  have Z51 : n0 ≤ h42.size := by rw [W42.size]; exact Z34
  have K52 := K35.wr W42 (Or.inl (by simp))
  refine Go.via st42 ?_
  show Go p e below _ (T42.setTop (mkF m 44 #[.val (.ref a1), .val (.double t), .second, .val (.double k), .second, .val (.double ks), .second, .val (.double kc), .second, .val (.double j), .second, .val (.double js), .second] []))
  refine s_aloadN X42 hx (hb hby d2_44) rfl rfl 45 rfl ?_
  refine s_dup X42 hx (hb hby d2_45) rfl 46 rfl ?_
  obtain ⟨T53, X53, e53, st53⟩ := getF X42 hx hZ hown (host := "") (Or.inl (wd hw 22 _ rfl)) Via.refl e42 F47 (g := (mkF m 46 #[.val (.ref a1), .val (.double t), .second, .val (.double k), .second, .val (.double ks), .second, .val (.double kc), .second, .val (.double j), .second, .val (.double js), .second] [.ref a1, .ref a1])) rfl rfl (hb hby d2_46)
  refine Go.via st53 ?_
  show Go p e below _ (T53.setTop (mkF m 49 #[.val (.ref a1), .val (.double t), .second, .val (.double k), .second, .val (.double ks), .second, .val (.double kc), .second, .val (.double j), .second, .val (.double js), .second] [.double f4, .ref a1]))
  refine s_dloadN X53 hx (hb hby d2_49) rfl 50 rfl ?_
  refine s_dloadN X53 hx (hb hby d2_50) rfl 51 rfl ?_
  have Dd54 := Db.mul H_k H_t (by decide)
  obtain ⟨d54, h_d54⟩ : ∃ v, FP.dmul k t = v := ⟨_, rfl⟩
  rw [h_d54] at Dd54
  refine s_dmul X53 hx (hb hby d2_51) d54 h_d54 Dd54.nn 52 rfl ?_
  have Dd55 := Db.add H_4 Dd54 (by decide)
  obtain ⟨d55, h_d55⟩ : ∃ v, FP.dadd f4 d54 = v := ⟨_, rfl⟩
  rw [h_d55] at Dd55
  refine s_dadd X53 hx (hb hby d2_52) d55 h_d55 Dd55.nn 53 rfl ?_
  obtain ⟨T56, h56, X56, e56, W56, st56⟩ := putF X53 hx hZ hown (host := "") (Or.inl (wd hw 22 _ rfl)) Via.refl e53 F47 F44 (Or.inl (wd hw 23 _ rfl)) (wd hw 3 _ rfl) (ty := .double) (by decide) rfl rfl (g := (mkF m 53 #[.val (.ref a1), .val (.double t), .second, .val (.double k), .second, .val (.double ks), .second, .val (.double kc), .second, .val (.double j), .second, .val (.double js), .second] [.double d55, .ref a1])) rfl rfl (hb hby d2_53)
  have N56 := Fr.snoc X56 N42 g1
  have F57 := F47.same W56
  have F58 := F44.wr W56
  have F59 := F45.other W56 (Or.inr (slot_ne (a0 := a0) (t := .double) (t' := .double) (Or.inl (wd hw 17 _ rfl)) (Or.inl (wd hw 23 _ rfl)) (by decide) (by decide) (by decide)))
  have F60 := F46.other W56 (Or.inr (slot_ne (a0 := a0) (t := .double) (t' := .double) (Or.inl (wd hw 19 _ rfl)) (Or.inl (wd hw 23 _ rfl)) (by decide) (by decide) (by decide)))
  have F61 := F43.other W56 (Or.inr (slot_ne (a0 := a0) (t := .double) (t' := .double) (Or.inl (wd hw 21 _ rfl)) (Or.inl (wd hw 23 _ rfl)) (by decide) (by decide) (by decide)))
  have F62 := F48.other W56 (Or.inr (slot_ne (a0 := a0) (t := .double) (t' := .double) (Or.inl (wd hw 25 _ rfl)) (Or.inl (wd hw 23 _ rfl)) (by decide) (by decide) (by decide)))
  have F63 := F49.other W56 (Or.inr (slot_ne (a0 := a0) (t := .double) (t' := .double) (Or.inl (wd hw 27 _ rfl)) (Or.inl (wd hw 23 _ rfl)) (by decide) (by decide) (by decide)))
  have F64 := F50.other W56 (Or.inr (slot_ne (a0 := a0) (t := .double) (t' := .double) (Or.inl (wd hw 29 _ rfl)) (Or.inl (wd hw 23 _ rfl)) (by decide) (by decide) (by decide)))
  have Z65 : n0 ≤ h56.size := by rw [W56.size]; exact Z51
  have K66 := K52.wr W56 (Or.inl (by simp))
  refine Go.via st56 ?_
  show Go p e below _ (T56.setTop (mkF m 56 #[.val (.ref a1), .val (.double t), .second, .val (.double k), .second, .val (.double ks), .second, .val (.double kc), .second, .val (.double j), .second, .val (.double js), .second] []))
  refine s_aloadN X56 hx (hb hby d2_56) rfl rfl 57 rfl ?_
  refine s_dup X56 hx (hb hby d2_57) rfl 58 rfl ?_
  obtain ⟨T67, X67, e67, st67⟩ := getF X56 hx hZ hown (host := "") (Or.inl (wd hw 24 _ rfl)) Via.refl e56 F62 (g := (mkF m 58 #[.val (.ref a1), .val (.double t), .second, .val (.double k), .second, .val (.double ks), .second, .val (.double kc), .second, .val (.double j), .second, .val (.double js), .second] [.ref a1, .ref a1])) rfl rfl (hb hby d2_58)
  refine Go.via st67 ?_
  show Go p e below _ (T67.setTop (mkF m 61 #[.val (.ref a1), .val (.double t), .second, .val (.double k), .second, .val (.double ks), .second, .val (.double kc), .second, .val (.double j), .second, .val (.double js), .second] [.double f5, .ref a1]))
  refine s_dloadN X67 hx (hb hby d2_61) rfl 62 rfl ?_
  refine s_dloadN X67 hx (hb hby d2_62) rfl 63 rfl ?_
  refine s_dconst1 X67 hx (hb hby d2_63) (4607182418800017408 : UInt64) rfl 64 rfl ?_
  have Dd68 := Db.sub H_k dc_4607182418800017408 (by decide)
  obtain ⟨d68, h_d68⟩ : ∃ v, FP.dsub k (4607182418800017408 : UInt64) = v := ⟨_, rfl⟩
  rw [h_d68] at Dd68
  refine s_dsub X67 hx (hb hby d2_64) d68 h_d68 Dd68.nn 65 rfl ?_
  have Dd69 := Db.mul H_k Dd68 (by decide)
  obtain ⟨d69, h_d69⟩ : ∃ v, FP.dmul k d68 = v := ⟨_, rfl⟩
  rw [h_d69] at Dd69
  refine s_dmul X67 hx (hb hby d2_65) d69 h_d69 Dd69.nn 66 rfl ?_
  refine s_dload X67 hx (hb hby d2_66) rfl 68 rfl ?_
  have Dd70 := Db.add Dd69 H_ks (by decide)
  obtain ⟨d70, h_d70⟩ : ∃ v, FP.dadd d69 ks = v := ⟨_, rfl⟩
  rw [h_d70] at Dd70
  refine s_dadd X67 hx (hb hby d2_68) d70 h_d70 Dd70.nn 69 rfl ?_
  refine s_dloadN X67 hx (hb hby d2_69) rfl 70 rfl ?_
  have Dd71 := Db.mul Dd70 H_t (by decide)
  obtain ⟨d71, h_d71⟩ : ∃ v, FP.dmul d70 t = v := ⟨_, rfl⟩
  rw [h_d71] at Dd71
  refine s_dmul X67 hx (hb hby d2_70) d71 h_d71 Dd71.nn 71 rfl ?_
  have Dd72 := Db.add H_5 Dd71 (by decide)
  obtain ⟨d72, h_d72⟩ : ∃ v, FP.dadd f5 d71 = v := ⟨_, rfl⟩
  rw [h_d72] at Dd72
  refine s_dadd X67 hx (hb hby d2_71) d72 h_d72 Dd72.nn 72 rfl ?_
  obtain ⟨T73, h73, X73, e73, W73, st73⟩ := putF X67 hx hZ hown (host := "") (Or.inl (wd hw 24 _ rfl)) Via.refl e67 F62 F58 (Or.inl (wd hw 25 _ rfl)) (wd hw 3 _ rfl) (ty := .double) (by decide) rfl rfl (g := (mkF m 72 #[.val (.ref a1), .val (.double t), .second, .val (.double k), .second, .val (.double ks), .second, .val (.double kc), .second, .val (.double j), .second, .val (.double js), .second] [.double d72, .ref a1])) rfl rfl (hb hby d2_72)
  have N73 := Fr.snoc X73 N56 g1
  have F74 := F62.same W73
  have F75 := F58.wr W73
  have F76 := F59.other W73 (Or.inr (slot_ne (a0 := a0) (t := .double) (t' := .double) (Or.inl (wd hw 17 _ rfl)) (Or.inl (wd hw 25 _ rfl)) (by decide) (by decide) (by decide)))
  have F77 := F60.other W73 (Or.inr (slot_ne (a0 := a0) (t := .double) (t' := .double) (Or.inl (wd hw 19 _ rfl)) (Or.inl (wd hw 25 _ rfl)) (by decide) (by decide) (by decide)))
  have F78 := F61.other W73 (Or.inr (slot_ne (a0 := a0) (t := .double) (t' := .double) (Or.inl (wd hw 21 _ rfl)) (Or.inl (wd hw 25 _ rfl)) (by decide) (by decide) (by decide)))
  have F79 := F57.other W73 (Or.inr (slot_ne (a0 := a0) (t := .double) (t' := .double) (Or.inl (wd hw 23 _ rfl)) (Or.inl (wd hw 25 _ rfl)) (by decide) (by decide) (by decide)))
  have F80 := F63.other W73 (Or.inr (slot_ne (a0 := a0) (t := .double) (t' := .double) (Or.inl (wd hw 27 _ rfl)) (Or.inl (wd hw 25 _ rfl)) (by decide) (by decide) (by decide)))
  have F81 := F64.other W73 (Or.inr (slot_ne (a0 := a0) (t := .double) (t' := .double) (Or.inl (wd hw 29 _ rfl)) (Or.inl (wd hw 25 _ rfl)) (by decide) (by decide) (by decide)))
  have Z82 : n0 ≤ h73.size := by rw [W73.size]; exact Z65
  have K83 := K66.wr W73 (Or.inl (by simp))
  refine Go.via st73 ?_
  show Go p e below _ (T73.setTop (mkF m 75 #[.val (.ref a1), .val (.double t), .second, .val (.double k), .second, .val (.double ks), .second, .val (.double kc), .second, .val (.double j), .second, .val (.double js), .second] []))
  refine s_aloadN X73 hx (hb hby d2_75) rfl rfl 76 rfl ?_
  refine s_dup X73 hx (hb hby d2_76) rfl 77 rfl ?_
  obtain ⟨T84, X84, e84, st84⟩ := getF X73 hx hZ hown (host := "") (Or.inl (wd hw 26 _ rfl)) Via.refl e73 F80 (g := (mkF m 77 #[.val (.ref a1), .val (.double t), .second, .val (.double k), .second, .val (.double ks), .second, .val (.double kc), .second, .val (.double j), .second, .val (.double js), .second] [.ref a1, .ref a1])) rfl rfl (hb hby d2_77)
  refine Go.via st84 ?_
  show Go p e below _ (T84.setTop (mkF m 80 #[.val (.ref a1), .val (.double t), .second, .val (.double k), .second, .val (.double ks), .second, .val (.double kc), .second, .val (.double j), .second, .val (.double js), .second] [.double f6, .ref a1]))
  refine s_dload X84 hx (hb hby d2_80) rfl 82 rfl ?_
  refine s_dloadN X84 hx (hb hby d2_82) rfl 83 rfl ?_
  have Dd85 := Db.mul H_j H_k (by decide)
  obtain ⟨d85, h_d85⟩ : ∃ v, FP.dmul j k = v := ⟨_, rfl⟩
  rw [h_d85] at Dd85
  refine s_dmul X84 hx (hb hby d2_83) d85 h_d85 Dd85.nn 84 rfl ?_
  refine s_dloadN X84 hx (hb hby d2_84) rfl 85 rfl ?_
  have Dd86 := Db.mul Dd85 H_t (by decide)
  obtain ⟨d86, h_d86⟩ : ∃ v, FP.dmul d85 t = v := ⟨_, rfl⟩
  rw [h_d86] at Dd86
  refine s_dmul X84 hx (hb hby d2_85) d86 h_d86 Dd86.nn 86 rfl ?_
  have Dd87 := Db.add H_6 Dd86 (by decide)
  obtain ⟨d87, h_d87⟩ : ∃ v, FP.dadd f6 d86 = v := ⟨_, rfl⟩
  rw [h_d87] at Dd87
  refine s_dadd X84 hx (hb hby d2_86) d87 h_d87 Dd87.nn 87 rfl ?_
  obtain ⟨T88, h88, X88, e88, W88, st88⟩ := putF X84 hx hZ hown (host := "") (Or.inl (wd hw 26 _ rfl)) Via.refl e84 F80 F75 (Or.inl (wd hw 27 _ rfl)) (wd hw 3 _ rfl) (ty := .double) (by decide) rfl rfl (g := (mkF m 87 #[.val (.ref a1), .val (.double t), .second, .val (.double k), .second, .val (.double ks), .second, .val (.double kc), .second, .val (.double j), .second, .val (.double js), .second] [.double d87, .ref a1])) rfl rfl (hb hby d2_87)
  have N88 := Fr.snoc X88 N73 g1
  have F89 := F80.same W88
  have F90 := F75.wr W88
  have F91 := F76.other W88 (Or.inr (slot_ne (a0 := a0) (t := .double) (t' := .double) (Or.inl (wd hw 17 _ rfl)) (Or.inl (wd hw 27 _ rfl)) (by decide) (by decide) (by decide)))
  have F92 := F77.other W88 (Or.inr (slot_ne (a0 := a0) (t := .double) (t' := .double) (Or.inl (wd hw 19 _ rfl)) (Or.inl (wd hw 27 _ rfl)) (by decide) (by decide) (by decide)))
  have F93 := F78.other W88 (Or.inr (slot_ne (a0 := a0) (t := .double) (t' := .double) (Or.inl (wd hw 21 _ rfl)) (Or.inl (wd hw 27 _ rfl)) (by decide) (by decide) (by decide)))
  have F94 := F79.other W88 (Or.inr (slot_ne (a0 := a0) (t := .double) (t' := .double) (Or.inl (wd hw 23 _ rfl)) (Or.inl (wd hw 27 _ rfl)) (by decide) (by decide) (by decide)))
  have F95 := F74.other W88 (Or.inr (slot_ne (a0 := a0) (t := .double) (t' := .double) (Or.inl (wd hw 25 _ rfl)) (Or.inl (wd hw 27 _ rfl)) (by decide) (by decide) (by decide)))
  have F96 := F81.other W88 (Or.inr (slot_ne (a0 := a0) (t := .double) (t' := .double) (Or.inl (wd hw 29 _ rfl)) (Or.inl (wd hw 27 _ rfl)) (by decide) (by decide) (by decide)))
  have Z97 : n0 ≤ h88.size := by rw [W88.size]; exact Z82
  have K98 := K83.wr W88 (Or.inl (by simp))
  refine Go.via st88 ?_
  show Go p e below _ (T88.setTop (mkF m 90 #[.val (.ref a1), .val (.double t), .second, .val (.double k), .second, .val (.double ks), .second, .val (.double kc), .second, .val (.double j), .second, .val (.double js), .second] []))
  refine s_aloadN X88 hx (hb hby d2_90) rfl rfl 91 rfl ?_
  refine s_dup X88 hx (hb hby d2_91) rfl 92 rfl ?_
  obtain ⟨T99, X99, e99, st99⟩ := getF X88 hx hZ hown (host := "") (Or.inl (wd hw 28 _ rfl)) Via.refl e88 F96 (g := (mkF m 92 #[.val (.ref a1), .val (.double t), .second, .val (.double k), .second, .val (.double ks), .second, .val (.double kc), .second, .val (.double j), .second, .val (.double js), .second] [.ref a1, .ref a1])) rfl rfl (hb hby d2_92)
  refine Go.via st99 ?_
  show Go p e below _ (T99.setTop (mkF m 95 #[.val (.ref a1), .val (.double t), .second, .val (.double k), .second, .val (.double ks), .second, .val (.double kc), .second, .val (.double j), .second, .val (.double js), .second] [.double f7, .ref a1]))
  refine s_dloadN X99 hx (hb hby d2_95) rfl 96 rfl ?_
  refine s_dloadN X99 hx (hb hby d2_96) rfl 97 rfl ?_
  refine s_dconst1 X99 hx (hb hby d2_97) (4607182418800017408 : UInt64) rfl 98 rfl ?_
  have Dd100 := Db.sub H_k dc_4607182418800017408 (by decide)
  obtain ⟨d100, h_d100⟩ : ∃ v, FP.dsub k (4607182418800017408 : UInt64) = v := ⟨_, rfl⟩
  rw [h_d100] at Dd100
  refine s_dsub X99 hx (hb hby d2_98) d100 h_d100 Dd100.nn 99 rfl ?_
  have Dd101 := Db.mul H_k Dd100 (by decide)
  obtain ⟨d101, h_d101⟩ : ∃ v, FP.dmul k d100 = v := ⟨_, rfl⟩
  rw [h_d101] at Dd101
  refine s_dmul X99 hx (hb hby d2_99) d101 h_d101 Dd101.nn 100 rfl ?_
  refine s_dloadN X99 hx (hb hby d2_100) rfl 101 rfl ?_
  refine s_ldc2D X99 hx (hb hby d2_101) hZ hown (wd hw 30 _ rfl) 104 rfl ?_
  have Dd102 := Db.sub H_k dc_4611686018427387904 (by decide)
  obtain ⟨d102, h_d102⟩ : ∃ v, FP.dsub k (4611686018427387904 : UInt64) = v := ⟨_, rfl⟩
  rw [h_d102] at Dd102
  refine s_dsub X99 hx (hb hby d2_104) d102 h_d102 Dd102.nn 105 rfl ?_
  have Dd103 := Db.mul Dd101 Dd102 (by decide)
  obtain ⟨d103, h_d103⟩ : ∃ v, FP.dmul d101 d102 = v := ⟨_, rfl⟩
  rw [h_d103] at Dd103
  refine s_dmul X99 hx (hb hby d2_105) d103 h_d103 Dd103.nn 106 rfl ?_
  refine s_ldc2D X99 hx (hb hby d2_106) hZ hown (wd hw 31 _ rfl) 109 rfl ?_
  refine s_dloadN X99 hx (hb hby d2_109) rfl 110 rfl ?_
  refine s_dconst1 X99 hx (hb hby d2_110) (4607182418800017408 : UInt64) rfl 111 rfl ?_
  have Dd104 := Db.sub H_k dc_4607182418800017408 (by decide)
  obtain ⟨d104, h_d104⟩ : ∃ v, FP.dsub k (4607182418800017408 : UInt64) = v := ⟨_, rfl⟩
  rw [h_d104] at Dd104
  refine s_dsub X99 hx (hb hby d2_111) d104 h_d104 Dd104.nn 112 rfl ?_
  have Dd105 := Db.mul dc_4613937818241073152 Dd104 (by decide)
  obtain ⟨d105, h_d105⟩ : ∃ v, FP.dmul (4613937818241073152 : UInt64) d104 = v := ⟨_, rfl⟩
  rw [h_d105] at Dd105
  refine s_dmul X99 hx (hb hby d2_112) d105 h_d105 Dd105.nn 113 rfl ?_
  refine s_dload X99 hx (hb hby d2_113) rfl 115 rfl ?_
  have Dd106 := Db.mul Dd105 H_ks (by decide)
  obtain ⟨d106, h_d106⟩ : ∃ v, FP.dmul d105 ks = v := ⟨_, rfl⟩
  rw [h_d106] at Dd106
  refine s_dmul X99 hx (hb hby d2_115) d106 h_d106 Dd106.nn 116 rfl ?_
  have Dd107 := Db.add Dd103 Dd106 (by decide)
  obtain ⟨d107, h_d107⟩ : ∃ v, FP.dadd d103 d106 = v := ⟨_, rfl⟩
  rw [h_d107] at Dd107
  refine s_dadd X99 hx (hb hby d2_116) d107 h_d107 Dd107.nn 117 rfl ?_
  refine s_dload X99 hx (hb hby d2_117) rfl 119 rfl ?_
  have Dd108 := Db.add Dd107 H_kc (by decide)
  obtain ⟨d108, h_d108⟩ : ∃ v, FP.dadd d107 kc = v := ⟨_, rfl⟩
  rw [h_d108] at Dd108
  refine s_dadd X99 hx (hb hby d2_119) d108 h_d108 Dd108.nn 120 rfl ?_
  refine s_dloadN X99 hx (hb hby d2_120) rfl 121 rfl ?_
  have Dd109 := Db.mul Dd108 H_t (by decide)
  obtain ⟨d109, h_d109⟩ : ∃ v, FP.dmul d108 t = v := ⟨_, rfl⟩
  rw [h_d109] at Dd109
  refine s_dmul X99 hx (hb hby d2_121) d109 h_d109 Dd109.nn 122 rfl ?_
  have Dd110 := Db.add H_7 Dd109 (by decide)
  obtain ⟨d110, h_d110⟩ : ∃ v, FP.dadd f7 d109 = v := ⟨_, rfl⟩
  rw [h_d110] at Dd110
  refine s_dadd X99 hx (hb hby d2_122) d110 h_d110 Dd110.nn 123 rfl ?_
  obtain ⟨T111, h111, X111, e111, W111, st111⟩ := putF X99 hx hZ hown (host := "") (Or.inl (wd hw 28 _ rfl)) Via.refl e99 F96 F90 (Or.inl (wd hw 29 _ rfl)) (wd hw 3 _ rfl) (ty := .double) (by decide) rfl rfl (g := (mkF m 123 #[.val (.ref a1), .val (.double t), .second, .val (.double k), .second, .val (.double ks), .second, .val (.double kc), .second, .val (.double j), .second, .val (.double js), .second] [.double d110, .ref a1])) rfl rfl (hb hby d2_123)
  have N111 := Fr.snoc X111 N88 g1
  have F112 := F96.same W111
  have F113 := F90.wr W111
  have F114 := F91.other W111 (Or.inr (slot_ne (a0 := a0) (t := .double) (t' := .double) (Or.inl (wd hw 17 _ rfl)) (Or.inl (wd hw 29 _ rfl)) (by decide) (by decide) (by decide)))
  have F115 := F92.other W111 (Or.inr (slot_ne (a0 := a0) (t := .double) (t' := .double) (Or.inl (wd hw 19 _ rfl)) (Or.inl (wd hw 29 _ rfl)) (by decide) (by decide) (by decide)))
  have F116 := F93.other W111 (Or.inr (slot_ne (a0 := a0) (t := .double) (t' := .double) (Or.inl (wd hw 21 _ rfl)) (Or.inl (wd hw 29 _ rfl)) (by decide) (by decide) (by decide)))
  have F117 := F94.other W111 (Or.inr (slot_ne (a0 := a0) (t := .double) (t' := .double) (Or.inl (wd hw 23 _ rfl)) (Or.inl (wd hw 29 _ rfl)) (by decide) (by decide) (by decide)))
  have F118 := F95.other W111 (Or.inr (slot_ne (a0 := a0) (t := .double) (t' := .double) (Or.inl (wd hw 25 _ rfl)) (Or.inl (wd hw 29 _ rfl)) (by decide) (by decide) (by decide)))
  have F119 := F89.other W111 (Or.inr (slot_ne (a0 := a0) (t := .double) (t' := .double) (Or.inl (wd hw 27 _ rfl)) (Or.inl (wd hw 29 _ rfl)) (by decide) (by decide) (by decide)))
  have Z120 : n0 ≤ h111.size := by rw [W111.size]; exact Z97
  have K121 := K98.wr W111 (Or.inl (by simp))
  refine Go.via st111 ?_
  show Go p e below _ (T111.setTop (mkF m 126 #[.val (.ref a1), .val (.double t), .second, .val (.double k), .second, .val (.double ks), .second, .val (.double kc), .second, .val (.double j), .second, .val (.double js), .second] []))
  exact retV X111 hx hlk hret (hb hby d2_126) e111 ⟨rfl, N111, K121, d10, d24, d41, d55, d72, d87, d110, ⟨F114, Dd10.weak (by decide)⟩, ⟨F115, Dd24.weak (by decide)⟩, ⟨F116, Dd41.weak (by decide)⟩, ⟨F117, Dd55.weak (by decide)⟩, ⟨F118, Dd72.weak (by decide)⟩, ⟨F119, Dd87.weak (by decide)⟩, ⟨F112, Dd110.weak (by decide)⟩⟩ (by decide) (by decide)
set_option maxRecDepth 65536 in
set_option maxHeartbeats 40000000 in
theorem rm_add2 (l : Launch) (Z : State) (a0 : Array Value) (hw : ∀ d ∈ tables_1, d.before a0 Z = true) (ws : List Jvm.Cond) (a1 : Addr) (t k ks kc j js : UInt64) (T K KS KC J JS : Int) (f1 f2 f3 f4 f5 f6 f7 : UInt64) (A1 A2 A3 A4 A5 A6 A7 : Int) (h0 : Heap) (n0 : Nat) (Z0 : n0 ≤ h0.size) (E1 : Exa Z h0 a1 "com/example/entalpi/entalpi/fluids/Derivatives") (g1 : n0 ≤ a1) (F_1 : Fld Z h0 a1 "com/example/entalpi/entalpi/fluids/Derivatives" "alpha" "D" (.double f1)) (F_2 : Fld Z h0 a1 "com/example/entalpi/entalpi/fluids/Derivatives" "tauAlphaTau" "D" (.double f2)) (F_3 : Fld Z h0 a1 "com/example/entalpi/entalpi/fluids/Derivatives" "tauTauAlphaTauTau" "D" (.double f3)) (F_4 : Fld Z h0 a1 "com/example/entalpi/entalpi/fluids/Derivatives" "deltaResidualDelta" "D" (.double f4)) (F_5 : Fld Z h0 a1 "com/example/entalpi/entalpi/fluids/Derivatives" "deltaDeltaResidualDeltaDelta" "D" (.double f5)) (F_6 : Fld Z h0 a1 "com/example/entalpi/entalpi/fluids/Derivatives" "deltaTauResidualDeltaTau" "D" (.double f6)) (F_7 : Fld Z h0 a1 "com/example/entalpi/entalpi/fluids/Derivatives" "deltaDeltaDeltaResidualDeltaDeltaDelta" "D" (.double f7)) (H_1 : Db 281474976710656 A1 0 f1) (H_2 : Db 281474976710656 A2 0 f2) (H_3 : Db 281474976710656 A3 0 f3) (H_4 : Db 281474976710656 A4 0 f4) (H_5 : Db 281474976710656 A5 0 f5) (H_6 : Db 281474976710656 A6 0 f6) (H_7 : Db 281474976710656 A7 0 f7) (H_t : Db 32768 T 0 t) (H_k : Db 256 K 0 k) (H_ks : Db 32768 KS 0 ks) (H_kc : Db 2147483648 KC 0 kc) (H_j : Db 32768 J 0 j) (H_js : Db 2147483648 JS 0 js) :
    Ct l Z (⟨"com/example/entalpi/entalpi/fluids/Derivatives", "addSeparable", "(DDDDDD)V"⟩ : MethodName) prog_7_method_2_code 13 none ws ({ frames := 0, cells := 0, slots := 0, locals := 0 } : Room) #[.ref a1, .double t, .double k, .double ks, .double kc, .double j, .double js] h0 (fun v h L => v = none ∧ Fr n0 L ∧ Keep h0 h [a1] ∧ ∃ r1 r2 r3 r4 r5 r6 r7, (Fld Z h a1 "com/example/entalpi/entalpi/fluids/Derivatives" "alpha" "D" (.double r1) ∧ Db 562949953421312 (A1 + T) 0 r1) ∧ (Fld Z h a1 "com/example/entalpi/entalpi/fluids/Derivatives" "tauAlphaTau" "D" (.double r2) ∧ Db 562949953421312 (A2 + J * T) 0 r2) ∧ (Fld Z h a1 "com/example/entalpi/entalpi/fluids/Derivatives" "tauTauAlphaTauTau" "D" (.double r3) ∧ Db 562949953421312 (A3 + (J * (J - 1) + JS) * T) 0 r3) ∧ (Fld Z h a1 "com/example/entalpi/entalpi/fluids/Derivatives" "deltaResidualDelta" "D" (.double r4) ∧ Db 562949953421312 (A4 + K * T) 0 r4) ∧ (Fld Z h a1 "com/example/entalpi/entalpi/fluids/Derivatives" "deltaDeltaResidualDeltaDelta" "D" (.double r5) ∧ Db 562949953421312 (A5 + (K * (K - 1) + KS) * T) 0 r5) ∧ (Fld Z h a1 "com/example/entalpi/entalpi/fluids/Derivatives" "deltaTauResidualDeltaTau" "D" (.double r6) ∧ Db 562949953421312 (A6 + J * K * T) 0 r6) ∧ (Fld Z h a1 "com/example/entalpi/entalpi/fluids/Derivatives" "deltaDeltaDeltaResidualDeltaDeltaDelta" "D" (.double r7) ∧ Db 562949953421312 (A7 + (K * (K - 1) * (K - 2) + 3 * (K - 1) * KS + KC) * T) 0 r7)) := by
  refine Ct.intro pn_2 #[.val (.ref a1), .val (.double t), .second, .val (.double k), .second, .val (.double ks), .second, .val (.double kc), .second, .val (.double j), .second, .val (.double js), .second] (fun _ => by first | (simp [entryFrame, mkF, argsToLocals, Value.category, maxLocals]; done) | rfl) ?_
  intro p e s m below meth c T0 X0 hx hZ hby hml hown hnm hret hlk e0
  have N0 := Fr.nil n0
  have K0 := Keep.refl h0 [a1]
  refine s_aloadN X0 hx (hb hby d2_0) rfl rfl 1 rfl ?_
  refine s_dup X0 hx (hb hby d2_1) rfl 2 rfl ?_
  obtain ⟨T122, X122, e122, st122⟩ := getF X0 hx hZ hown (host := "") (Or.inl (wd hw 16 _ rfl)) Via.refl e0 F_1 (g := (mkF m 2 #[.val (.ref a1), .val (.double t), .second, .val (.double k), .second, .val (.double ks), .second, .val (.double kc), .second, .val (.double j), .second, .val (.double js), .second] [.ref a1, .ref a1])) rfl rfl (hb hby d2_2)
  refine Go.via st122 ?_
  show Go p e below _ (T122.setTop (mkF m 5 #[.val (.ref a1), .val (.double t), .second, .val (.double k), .second, .val (.double ks), .second, .val (.double kc), .second, .val (.double j), .second, .val (.double js), .second] [.double f1, .ref a1]))
  refine s_dloadN X122 hx (hb hby d2_5) rfl 6 rfl ?_
  have Dd123 := Db.add H_1 H_t (by decide)
  obtain ⟨d123, h_d123⟩ : ∃ v, FP.dadd f1 t = v := ⟨_, rfl⟩
  rw [h_d123] at Dd123
  refine s_dadd X122 hx (hb hby d2_6) d123 h_d123 Dd123.nn 7 rfl ?_
  obtain ⟨T124, h124, X124, e124, W124, st124⟩ := putF X122 hx hZ hown (host := "") (Or.inl (wd hw 16 _ rfl)) Via.refl e122 F_1 E1 (Or.inl (wd hw 17 _ rfl)) (wd hw 3 _ rfl) (ty := .double) (by decide) rfl rfl (g := (mkF m 7 #[.val (.ref a1), .val (.double t), .second, .val (.double k), .second, .val (.double ks), .second, .val (.double kc), .second, .val (.double j), .second, .val (.double js), .second] [.double d123, .ref a1])) rfl rfl (hb hby d2_7)
  have N124 := Fr.snoc X124 N0 g1
  have F125 := F_1.same W124
  have F126 := E1.wr W124
  have F127 := F_2.other W124 (Or.inr (slot_ne (a0 := a0) (t := .double) (t' := .double) (Or.inl (wd hw 19 _ rfl)) (Or.inl (wd hw 17 _ rfl)) (by decide) (by decide) (by decide)))
  have F128 := F_3.other W124 (Or.inr (slot_ne (a0 := a0) (t := .double) (t' := .double) (Or.inl (wd hw 21 _ rfl)) (Or.inl (wd hw 17 _ rfl)) (by decide) (by decide) (by decide)))
  have F129 := F_4.other W124 (Or.inr (slot_ne (a0 := a0) (t := .double) (t' := .double) (Or.inl (wd hw 23 _ rfl)) (Or.inl (wd hw 17 _ rfl)) (by decide) (by decide) (by decide)))
  have F130 := F_5.other W124 (Or.inr (slot_ne (a0 := a0) (t := .double) (t' := .double) (Or.inl (wd hw 25 _ rfl)) (Or.inl (wd hw 17 _ rfl)) (by decide) (by decide) (by decide)))
  have F131 := F_6.other W124 (Or.inr (slot_ne (a0 := a0) (t := .double) (t' := .double) (Or.inl (wd hw 27 _ rfl)) (Or.inl (wd hw 17 _ rfl)) (by decide) (by decide) (by decide)))
  have F132 := F_7.other W124 (Or.inr (slot_ne (a0 := a0) (t := .double) (t' := .double) (Or.inl (wd hw 29 _ rfl)) (Or.inl (wd hw 17 _ rfl)) (by decide) (by decide) (by decide)))
  have Z133 : n0 ≤ h124.size := by rw [W124.size]; exact Z0
  have K134 := K0.wr W124 (Or.inl (by simp))
  refine Go.via st124 ?_
  show Go p e below _ (T124.setTop (mkF m 10 #[.val (.ref a1), .val (.double t), .second, .val (.double k), .second, .val (.double ks), .second, .val (.double kc), .second, .val (.double j), .second, .val (.double js), .second] []))
  refine s_aloadN X124 hx (hb hby d2_10) rfl rfl 11 rfl ?_
  refine s_dup X124 hx (hb hby d2_11) rfl 12 rfl ?_
  obtain ⟨T135, X135, e135, st135⟩ := getF X124 hx hZ hown (host := "") (Or.inl (wd hw 18 _ rfl)) Via.refl e124 F127 (g := (mkF m 12 #[.val (.ref a1), .val (.double t), .second, .val (.double k), .second, .val (.double ks), .second, .val (.double kc), .second, .val (.double j), .second, .val (.double js), .second] [.ref a1, .ref a1])) rfl rfl (hb hby d2_12)
  refine Go.via st135 ?_
  show Go p e below _ (T135.setTop (mkF m 15 #[.val (.ref a1), .val (.double t), .second, .val (.double k), .second, .val (.double ks), .second, .val (.double kc), .second, .val (.double j), .second, .val (.double js), .second] [.double f2, .ref a1]))
  refine s_dload X135 hx (hb hby d2_15) rfl 17 rfl ?_
  refine s_dloadN X135 hx (hb hby d2_17) rfl 18 rfl ?_
  have Dd136 := Db.mul H_j H_t (by decide)
  obtain ⟨d136, h_d136⟩ : ∃ v, FP.dmul j t = v := ⟨_, rfl⟩
  rw [h_d136] at Dd136
  refine s_dmul X135 hx (hb hby d2_18) d136 h_d136 Dd136.nn 19 rfl ?_
  have Dd137 := Db.add H_2 Dd136 (by decide)
  obtain ⟨d137, h_d137⟩ : ∃ v, FP.dadd f2 d136 = v := ⟨_, rfl⟩
  rw [h_d137] at Dd137
  refine s_dadd X135 hx (hb hby d2_19) d137 h_d137 Dd137.nn 20 rfl ?_
  obtain ⟨T138, h138, X138, e138, W138, st138⟩ := putF X135 hx hZ hown (host := "") (Or.inl (wd hw 18 _ rfl)) Via.refl e135 F127 F126 (Or.inl (wd hw 19 _ rfl)) (wd hw 3 _ rfl) (ty := .double) (by decide) rfl rfl (g := (mkF m 20 #[.val (.ref a1), .val (.double t), .second, .val (.double k), .second, .val (.double ks), .second, .val (.double kc), .second, .val (.double j), .second, .val (.double js), .second] [.double d137, .ref a1])) rfl rfl (hb hby d2_20)
  have N138 := Fr.snoc X138 N124 g1
  have F139 := F127.same W138
  have F140 := F126.wr W138
  have F141 := F125.other W138 (Or.inr (slot_ne (a0 := a0) (t := .double) (t' := .double) (Or.inl (wd hw 17 _ rfl)) (Or.inl (wd hw 19 _ rfl)) (by decide) (by decide) (by decide)))
  have F142 := F128.other W138 (Or.inr (slot_ne (a0 := a0) (t := .double) (t' := .double) (Or.inl (wd hw 21 _ rfl)) (Or.inl (wd hw 19 _ rfl)) (by decide) (by decide) (by decide)))
  have F143 := F129.other W138 (Or.inr (slot_ne (a0 := a0) (t := .double) (t' := .double) (Or.inl (wd hw 23 _ rfl)) (Or.inl (wd hw 19 _ rfl)) (by decide) (by decide) (by decide)))
  have F144 := F130.other W138 (Or.inr (slot_ne (a0 := a0) (t := .double) (t' := .double) (Or.inl (wd hw 25 _ rfl)) (Or.inl (wd hw 19 _ rfl)) (by decide) (by decide) (by decide)))
  have F145 := F131.other W138 (Or.inr (slot_ne (a0 := a0) (t := .double) (t' := .double) (Or.inl (wd hw 27 _ rfl)) (Or.inl (wd hw 19 _ rfl)) (by decide) (by decide) (by decide)))
  have F146 := F132.other W138 (Or.inr (slot_ne (a0 := a0) (t := .double) (t' := .double) (Or.inl (wd hw 29 _ rfl)) (Or.inl (wd hw 19 _ rfl)) (by decide) (by decide) (by decide)))
  have Z147 : n0 ≤ h138.size := by rw [W138.size]; exact Z133
  have K148 := K134.wr W138 (Or.inl (by simp))
  refine Go.via st138 ?_
  show Go p e below _ (T138.setTop (mkF m 23 #[.val (.ref a1), .val (.double t), .second, .val (.double k), .second, .val (.double ks), .second, .val (.double kc), .second, .val (.double j), .second, .val (.double js), .second] []))
  refine s_aloadN X138 hx (hb hby d2_23) rfl rfl 24 rfl ?_
  refine s_dup X138 hx (hb hby d2_24) rfl 25 rfl ?_
  obtain ⟨T149, X149, e149, st149⟩ := getF X138 hx hZ hown (host := "") (Or.inl (wd hw 20 _ rfl)) Via.refl e138 F142 (g := (mkF m 25 #[.val (.ref a1), .val (.double t), .second, .val (.double k), .second, .val (.double ks), .second, .val (.double kc), .second, .val (.double j), .second, .val (.double js), .second] [.ref a1, .ref a1])) rfl rfl (hb hby d2_25)
  refine Go.via st149 ?_
  show Go p e below _ (T149.setTop (mkF m 28 #[.val (.ref a1), .val (.double t), .second, .val (.double k), .second, .val (.double ks), .second, .val (.double kc), .second, .val (.double j), .second, .val (.double js), .second] [.double f3, .ref a1]))
  refine s_dload X149 hx (hb hby d2_28) rfl 30 rfl ?_
  refine s_dload X149 hx (hb hby d2_30) rfl 32 rfl ?_
  refine s_dconst1 X149 hx (hb hby d2_32) (4607182418800017408 : UInt64) rfl 33 rfl ?_
  have Dd150 := Db.sub H_j dc_4607182418800017408 (by decide)
  obtain ⟨d150, h_d150⟩ : ∃ v, FP.dsub j (4607182418800017408 : UInt64) = v := ⟨_, rfl⟩
  rw [h_d150] at Dd150
  refine s_dsub X149 hx (hb hby d2_33) d150 h_d150 Dd150.nn 34 rfl ?_
  have Dd151 := Db.mul H_j Dd150 (by decide)
  obtain ⟨d151, h_d151⟩ : ∃ v, FP.dmul j d150 = v := ⟨_, rfl⟩
  rw [h_d151] at Dd151
  refine s_dmul X149 hx (hb hby d2_34) d151 h_d151 Dd151.nn 35 rfl ?_
  refine s_dload X149 hx (hb hby d2_35) rfl 37 rfl ?_
  have Dd152 := Db.add Dd151 H_js (by decide)
  obtain ⟨d152, h_d152⟩ : ∃ v, FP.dadd d151 js = v := ⟨_, rfl⟩
  rw [h_d152] at Dd152
  refine s_dadd X149 hx (hb hby d2_37) d152 h_d152 Dd152.nn 38 rfl ?_
  refine s_dloadN X149 hx (hb hby d2_38) rfl 39 rfl ?_
  have Dd153 := Db.mul Dd152 H_t (by decide)
  obtain ⟨d153, h_d153⟩ : ∃ v, FP.dmul d152 t = v := ⟨_, rfl⟩
  rw [h_d153] at Dd153
  refine s_dmul X149 hx (hb hby d2_39) d153 h_d153 Dd153.nn 40 rfl ?_
  have Dd154 := Db.add H_3 Dd153 (by decide)
  obtain ⟨d154, h_d154⟩ : ∃ v, FP.dadd f3 d153 = v := ⟨_, rfl⟩
  rw [h_d154] at Dd154
  refine s_dadd X149 hx (hb hby d2_40) d154 h_d154 Dd154.nn 41 rfl ?_
  obtain ⟨T155, h155, X155, e155, W155, st155⟩ := putF X149 hx hZ hown (host := "") (Or.inl (wd hw 20 _ rfl)) Via.refl e149 F142 F140 (Or.inl (wd hw 21 _ rfl)) (wd hw 3 _ rfl) (ty := .double) (by decide) rfl rfl (g := (mkF m 41 #[.val (.ref a1), .val (.double t), .second, .val (.double k), .second, .val (.double ks), .second, .val (.double kc), .second, .val (.double j), .second, .val (.double js), .second] [.double d154, .ref a1])) rfl rfl (hb hby d2_41)
  have N155 := Fr.snoc X155 N138 g1
  have F156 := F142.same W155
  have F157 := F140.wr W155
  have F158 := F141.other W155 (Or.inr (slot_ne (a0 := a0) (t := .double) (t' := .double) (Or.inl (wd hw 17 _ rfl)) (Or.inl (wd hw 21 _ rfl)) (by decide) (by decide) (by decide)))
  have F159 := F139.other W155 (Or.inr (slot_ne (a0 := a0) (t := .double) (t' := .double) (Or.inl (wd hw 19 _ rfl)) (Or.inl (wd hw 21 _ rfl)) (by decide) (by decide) (by decide)))
  have F160 := F143.other W155 (Or.inr (slot_ne (a0 := a0) (t := .double) (t' := .double) (Or.inl (wd hw 23 _ rfl)) (Or.inl (wd hw 21 _ rfl)) (by decide) (by decide) (by decide)))
  have F161 := F144.other W155 (Or.inr (slot_ne (a0 := a0) (t := .double) (t' := .double) (Or.inl (wd hw 25 _ rfl)) (Or.inl (wd hw 21 _ rfl)) (by decide) (by decide) (by decide)))
  have F162 := F145.other W155 (Or.inr (slot_ne (a0 := a0) (t := .double) (t' := .double) (Or.inl (wd hw 27 _ rfl)) (Or.inl (wd hw 21 _ rfl)) (by decide) (by decide) (by decide)))
  have F163 := F146.other W155 (Or.inr (slot_ne (a0 := a0) (t := .double) (t' := .double) (Or.inl (wd hw 29 _ rfl)) (Or.inl (wd hw 21 _ rfl)) (by decide) (by decide) (by decide)))
  have Z164 : n0 ≤ h155.size := by rw [W155.size]; exact Z147
  have K165 := K148.wr W155 (Or.inl (by simp))
  refine Go.via st155 ?_
  show Go p e below _ (T155.setTop (mkF m 44 #[.val (.ref a1), .val (.double t), .second, .val (.double k), .second, .val (.double ks), .second, .val (.double kc), .second, .val (.double j), .second, .val (.double js), .second] []))
  refine s_aloadN X155 hx (hb hby d2_44) rfl rfl 45 rfl ?_
  refine s_dup X155 hx (hb hby d2_45) rfl 46 rfl ?_
  obtain ⟨T166, X166, e166, st166⟩ := getF X155 hx hZ hown (host := "") (Or.inl (wd hw 22 _ rfl)) Via.refl e155 F160 (g := (mkF m 46 #[.val (.ref a1), .val (.double t), .second, .val (.double k), .second, .val (.double ks), .second, .val (.double kc), .second, .val (.double j), .second, .val (.double js), .second] [.ref a1, .ref a1])) rfl rfl (hb hby d2_46)
  refine Go.via st166 ?_
  show Go p e below _ (T166.setTop (mkF m 49 #[.val (.ref a1), .val (.double t), .second, .val (.double k), .second, .val (.double ks), .second, .val (.double kc), .second, .val (.double j), .second, .val (.double js), .second] [.double f4, .ref a1]))
  refine s_dloadN X166 hx (hb hby d2_49) rfl 50 rfl ?_
  refine s_dloadN X166 hx (hb hby d2_50) rfl 51 rfl ?_
  have Dd167 := Db.mul H_k H_t (by decide)
  obtain ⟨d167, h_d167⟩ : ∃ v, FP.dmul k t = v := ⟨_, rfl⟩
  rw [h_d167] at Dd167
  refine s_dmul X166 hx (hb hby d2_51) d167 h_d167 Dd167.nn 52 rfl ?_
  have Dd168 := Db.add H_4 Dd167 (by decide)
  obtain ⟨d168, h_d168⟩ : ∃ v, FP.dadd f4 d167 = v := ⟨_, rfl⟩
  rw [h_d168] at Dd168
  refine s_dadd X166 hx (hb hby d2_52) d168 h_d168 Dd168.nn 53 rfl ?_
  obtain ⟨T169, h169, X169, e169, W169, st169⟩ := putF X166 hx hZ hown (host := "") (Or.inl (wd hw 22 _ rfl)) Via.refl e166 F160 F157 (Or.inl (wd hw 23 _ rfl)) (wd hw 3 _ rfl) (ty := .double) (by decide) rfl rfl (g := (mkF m 53 #[.val (.ref a1), .val (.double t), .second, .val (.double k), .second, .val (.double ks), .second, .val (.double kc), .second, .val (.double j), .second, .val (.double js), .second] [.double d168, .ref a1])) rfl rfl (hb hby d2_53)
  have N169 := Fr.snoc X169 N155 g1
  have F170 := F160.same W169
  have F171 := F157.wr W169
  have F172 := F158.other W169 (Or.inr (slot_ne (a0 := a0) (t := .double) (t' := .double) (Or.inl (wd hw 17 _ rfl)) (Or.inl (wd hw 23 _ rfl)) (by decide) (by decide) (by decide)))
  have F173 := F159.other W169 (Or.inr (slot_ne (a0 := a0) (t := .double) (t' := .double) (Or.inl (wd hw 19 _ rfl)) (Or.inl (wd hw 23 _ rfl)) (by decide) (by decide) (by decide)))
  have F174 := F156.other W169 (Or.inr (slot_ne (a0 := a0) (t := .double) (t' := .double) (Or.inl (wd hw 21 _ rfl)) (Or.inl (wd hw 23 _ rfl)) (by decide) (by decide) (by decide)))
  have F175 := F161.other W169 (Or.inr (slot_ne (a0 := a0) (t := .double) (t' := .double) (Or.inl (wd hw 25 _ rfl)) (Or.inl (wd hw 23 _ rfl)) (by decide) (by decide) (by decide)))
  have F176 := F162.other W169 (Or.inr (slot_ne (a0 := a0) (t := .double) (t' := .double) (Or.inl (wd hw 27 _ rfl)) (Or.inl (wd hw 23 _ rfl)) (by decide) (by decide) (by decide)))
  have F177 := F163.other W169 (Or.inr (slot_ne (a0 := a0) (t := .double) (t' := .double) (Or.inl (wd hw 29 _ rfl)) (Or.inl (wd hw 23 _ rfl)) (by decide) (by decide) (by decide)))
  have Z178 : n0 ≤ h169.size := by rw [W169.size]; exact Z164
  have K179 := K165.wr W169 (Or.inl (by simp))
  refine Go.via st169 ?_
  show Go p e below _ (T169.setTop (mkF m 56 #[.val (.ref a1), .val (.double t), .second, .val (.double k), .second, .val (.double ks), .second, .val (.double kc), .second, .val (.double j), .second, .val (.double js), .second] []))
  refine s_aloadN X169 hx (hb hby d2_56) rfl rfl 57 rfl ?_
  refine s_dup X169 hx (hb hby d2_57) rfl 58 rfl ?_
  obtain ⟨T180, X180, e180, st180⟩ := getF X169 hx hZ hown (host := "") (Or.inl (wd hw 24 _ rfl)) Via.refl e169 F175 (g := (mkF m 58 #[.val (.ref a1), .val (.double t), .second, .val (.double k), .second, .val (.double ks), .second, .val (.double kc), .second, .val (.double j), .second, .val (.double js), .second] [.ref a1, .ref a1])) rfl rfl (hb hby d2_58)
  refine Go.via st180 ?_
  show Go p e below _ (T180.setTop (mkF m 61 #[.val (.ref a1), .val (.double t), .second, .val (.double k), .second, .val (.double ks), .second, .val (.double kc), .second, .val (.double j), .second, .val (.double js), .second] [.double f5, .ref a1]))
  refine s_dloadN X180 hx (hb hby d2_61) rfl 62 rfl ?_
  refine s_dloadN X180 hx (hb hby d2_62) rfl 63 rfl ?_
  refine s_dconst1 X180 hx (hb hby d2_63) (4607182418800017408 : UInt64) rfl 64 rfl ?_
  have Dd181 := Db.sub H_k dc_4607182418800017408 (by decide)
  obtain ⟨d181, h_d181⟩ : ∃ v, FP.dsub k (4607182418800017408 : UInt64) = v := ⟨_, rfl⟩
  rw [h_d181] at Dd181
  refine s_dsub X180 hx (hb hby d2_64) d181 h_d181 Dd181.nn 65 rfl ?_
  have Dd182 := Db.mul H_k Dd181 (by decide)
  obtain ⟨d182, h_d182⟩ : ∃ v, FP.dmul k d181 = v := ⟨_, rfl⟩
  rw [h_d182] at Dd182
  refine s_dmul X180 hx (hb hby d2_65) d182 h_d182 Dd182.nn 66 rfl ?_
  refine s_dload X180 hx (hb hby d2_66) rfl 68 rfl ?_
  have Dd183 := Db.add Dd182 H_ks (by decide)
  obtain ⟨d183, h_d183⟩ : ∃ v, FP.dadd d182 ks = v := ⟨_, rfl⟩
  rw [h_d183] at Dd183
  refine s_dadd X180 hx (hb hby d2_68) d183 h_d183 Dd183.nn 69 rfl ?_
  refine s_dloadN X180 hx (hb hby d2_69) rfl 70 rfl ?_
  have Dd184 := Db.mul Dd183 H_t (by decide)
  obtain ⟨d184, h_d184⟩ : ∃ v, FP.dmul d183 t = v := ⟨_, rfl⟩
  rw [h_d184] at Dd184
  refine s_dmul X180 hx (hb hby d2_70) d184 h_d184 Dd184.nn 71 rfl ?_
  have Dd185 := Db.add H_5 Dd184 (by decide)
  obtain ⟨d185, h_d185⟩ : ∃ v, FP.dadd f5 d184 = v := ⟨_, rfl⟩
  rw [h_d185] at Dd185
  refine s_dadd X180 hx (hb hby d2_71) d185 h_d185 Dd185.nn 72 rfl ?_
  obtain ⟨T186, h186, X186, e186, W186, st186⟩ := putF X180 hx hZ hown (host := "") (Or.inl (wd hw 24 _ rfl)) Via.refl e180 F175 F171 (Or.inl (wd hw 25 _ rfl)) (wd hw 3 _ rfl) (ty := .double) (by decide) rfl rfl (g := (mkF m 72 #[.val (.ref a1), .val (.double t), .second, .val (.double k), .second, .val (.double ks), .second, .val (.double kc), .second, .val (.double j), .second, .val (.double js), .second] [.double d185, .ref a1])) rfl rfl (hb hby d2_72)
  have N186 := Fr.snoc X186 N169 g1
  have F187 := F175.same W186
  have F188 := F171.wr W186
  have F189 := F172.other W186 (Or.inr (slot_ne (a0 := a0) (t := .double) (t' := .double) (Or.inl (wd hw 17 _ rfl)) (Or.inl (wd hw 25 _ rfl)) (by decide) (by decide) (by decide)))
  have F190 := F173.other W186 (Or.inr (slot_ne (a0 := a0) (t := .double) (t' := .double) (Or.inl (wd hw 19 _ rfl)) (Or.inl (wd hw 25 _ rfl)) (by decide) (by decide) (by decide)))
  have F191 := F174.other W186 (Or.inr (slot_ne (a0 := a0) (t := .double) (t' := .double) (Or.inl (wd hw 21 _ rfl)) (Or.inl (wd hw 25 _ rfl)) (by decide) (by decide) (by decide)))
  have F192 := F170.other W186 (Or.inr (slot_ne (a0 := a0) (t := .double) (t' := .double) (Or.inl (wd hw 23 _ rfl)) (Or.inl (wd hw 25 _ rfl)) (by decide) (by decide) (by decide)))
  have F193 := F176.other W186 (Or.inr (slot_ne (a0 := a0) (t := .double) (t' := .double) (Or.inl (wd hw 27 _ rfl)) (Or.inl (wd hw 25 _ rfl)) (by decide) (by decide) (by decide)))
  have F194 := F177.other W186 (Or.inr (slot_ne (a0 := a0) (t := .double) (t' := .double) (Or.inl (wd hw 29 _ rfl)) (Or.inl (wd hw 25 _ rfl)) (by decide) (by decide) (by decide)))
  have Z195 : n0 ≤ h186.size := by rw [W186.size]; exact Z178
  have K196 := K179.wr W186 (Or.inl (by simp))
  refine Go.via st186 ?_
  show Go p e below _ (T186.setTop (mkF m 75 #[.val (.ref a1), .val (.double t), .second, .val (.double k), .second, .val (.double ks), .second, .val (.double kc), .second, .val (.double j), .second, .val (.double js), .second] []))
  refine s_aloadN X186 hx (hb hby d2_75) rfl rfl 76 rfl ?_
  refine s_dup X186 hx (hb hby d2_76) rfl 77 rfl ?_
  obtain ⟨T197, X197, e197, st197⟩ := getF X186 hx hZ hown (host := "") (Or.inl (wd hw 26 _ rfl)) Via.refl e186 F193 (g := (mkF m 77 #[.val (.ref a1), .val (.double t), .second, .val (.double k), .second, .val (.double ks), .second, .val (.double kc), .second, .val (.double j), .second, .val (.double js), .second] [.ref a1, .ref a1])) rfl rfl (hb hby d2_77)
  refine Go.via st197 ?_
  show Go p e below _ (T197.setTop (mkF m 80 #[.val (.ref a1), .val (.double t), .second, .val (.double k), .second, .val (.double ks), .second, .val (.double kc), .second, .val (.double j), .second, .val (.double js), .second] [.double f6, .ref a1]))
  refine s_dload X197 hx (hb hby d2_80) rfl 82 rfl ?_
  refine s_dloadN X197 hx (hb hby d2_82) rfl 83 rfl ?_
  have Dd198 := Db.mul H_j H_k (by decide)
  obtain ⟨d198, h_d198⟩ : ∃ v, FP.dmul j k = v := ⟨_, rfl⟩
  rw [h_d198] at Dd198
  refine s_dmul X197 hx (hb hby d2_83) d198 h_d198 Dd198.nn 84 rfl ?_
  refine s_dloadN X197 hx (hb hby d2_84) rfl 85 rfl ?_
  have Dd199 := Db.mul Dd198 H_t (by decide)
  obtain ⟨d199, h_d199⟩ : ∃ v, FP.dmul d198 t = v := ⟨_, rfl⟩
  rw [h_d199] at Dd199
  refine s_dmul X197 hx (hb hby d2_85) d199 h_d199 Dd199.nn 86 rfl ?_
  have Dd200 := Db.add H_6 Dd199 (by decide)
  obtain ⟨d200, h_d200⟩ : ∃ v, FP.dadd f6 d199 = v := ⟨_, rfl⟩
  rw [h_d200] at Dd200
  refine s_dadd X197 hx (hb hby d2_86) d200 h_d200 Dd200.nn 87 rfl ?_
  obtain ⟨T201, h201, X201, e201, W201, st201⟩ := putF X197 hx hZ hown (host := "") (Or.inl (wd hw 26 _ rfl)) Via.refl e197 F193 F188 (Or.inl (wd hw 27 _ rfl)) (wd hw 3 _ rfl) (ty := .double) (by decide) rfl rfl (g := (mkF m 87 #[.val (.ref a1), .val (.double t), .second, .val (.double k), .second, .val (.double ks), .second, .val (.double kc), .second, .val (.double j), .second, .val (.double js), .second] [.double d200, .ref a1])) rfl rfl (hb hby d2_87)
  have N201 := Fr.snoc X201 N186 g1
  have F202 := F193.same W201
  have F203 := F188.wr W201
  have F204 := F189.other W201 (Or.inr (slot_ne (a0 := a0) (t := .double) (t' := .double) (Or.inl (wd hw 17 _ rfl)) (Or.inl (wd hw 27 _ rfl)) (by decide) (by decide) (by decide)))
  have F205 := F190.other W201 (Or.inr (slot_ne (a0 := a0) (t := .double) (t' := .double) (Or.inl (wd hw 19 _ rfl)) (Or.inl (wd hw 27 _ rfl)) (by decide) (by decide) (by decide)))
  have F206 := F191.other W201 (Or.inr (slot_ne (a0 := a0) (t := .double) (t' := .double) (Or.inl (wd hw 21 _ rfl)) (Or.inl (wd hw 27 _ rfl)) (by decide) (by decide) (by decide)))
  have F207 := F192.other W201 (Or.inr (slot_ne (a0 := a0) (t := .double) (t' := .double) (Or.inl (wd hw 23 _ rfl)) (Or.inl (wd hw 27 _ rfl)) (by decide) (by decide) (by decide)))
  have F208 := F187.other W201 (Or.inr (slot_ne (a0 := a0) (t := .double) (t' := .double) (Or.inl (wd hw 25 _ rfl)) (Or.inl (wd hw 27 _ rfl)) (by decide) (by decide) (by decide)))
  have F209 := F194.other W201 (Or.inr (slot_ne (a0 := a0) (t := .double) (t' := .double) (Or.inl (wd hw 29 _ rfl)) (Or.inl (wd hw 27 _ rfl)) (by decide) (by decide) (by decide)))
  have Z210 : n0 ≤ h201.size := by rw [W201.size]; exact Z195
  have K211 := K196.wr W201 (Or.inl (by simp))
  refine Go.via st201 ?_
  show Go p e below _ (T201.setTop (mkF m 90 #[.val (.ref a1), .val (.double t), .second, .val (.double k), .second, .val (.double ks), .second, .val (.double kc), .second, .val (.double j), .second, .val (.double js), .second] []))
  refine s_aloadN X201 hx (hb hby d2_90) rfl rfl 91 rfl ?_
  refine s_dup X201 hx (hb hby d2_91) rfl 92 rfl ?_
  obtain ⟨T212, X212, e212, st212⟩ := getF X201 hx hZ hown (host := "") (Or.inl (wd hw 28 _ rfl)) Via.refl e201 F209 (g := (mkF m 92 #[.val (.ref a1), .val (.double t), .second, .val (.double k), .second, .val (.double ks), .second, .val (.double kc), .second, .val (.double j), .second, .val (.double js), .second] [.ref a1, .ref a1])) rfl rfl (hb hby d2_92)
  refine Go.via st212 ?_
  show Go p e below _ (T212.setTop (mkF m 95 #[.val (.ref a1), .val (.double t), .second, .val (.double k), .second, .val (.double ks), .second, .val (.double kc), .second, .val (.double j), .second, .val (.double js), .second] [.double f7, .ref a1]))
  refine s_dloadN X212 hx (hb hby d2_95) rfl 96 rfl ?_
  refine s_dloadN X212 hx (hb hby d2_96) rfl 97 rfl ?_
  refine s_dconst1 X212 hx (hb hby d2_97) (4607182418800017408 : UInt64) rfl 98 rfl ?_
  have Dd213 := Db.sub H_k dc_4607182418800017408 (by decide)
  obtain ⟨d213, h_d213⟩ : ∃ v, FP.dsub k (4607182418800017408 : UInt64) = v := ⟨_, rfl⟩
  rw [h_d213] at Dd213
  refine s_dsub X212 hx (hb hby d2_98) d213 h_d213 Dd213.nn 99 rfl ?_
  have Dd214 := Db.mul H_k Dd213 (by decide)
  obtain ⟨d214, h_d214⟩ : ∃ v, FP.dmul k d213 = v := ⟨_, rfl⟩
  rw [h_d214] at Dd214
  refine s_dmul X212 hx (hb hby d2_99) d214 h_d214 Dd214.nn 100 rfl ?_
  refine s_dloadN X212 hx (hb hby d2_100) rfl 101 rfl ?_
  refine s_ldc2D X212 hx (hb hby d2_101) hZ hown (wd hw 30 _ rfl) 104 rfl ?_
  have Dd215 := Db.sub H_k dc_4611686018427387904 (by decide)
  obtain ⟨d215, h_d215⟩ : ∃ v, FP.dsub k (4611686018427387904 : UInt64) = v := ⟨_, rfl⟩
  rw [h_d215] at Dd215
  refine s_dsub X212 hx (hb hby d2_104) d215 h_d215 Dd215.nn 105 rfl ?_
  have Dd216 := Db.mul Dd214 Dd215 (by decide)
  obtain ⟨d216, h_d216⟩ : ∃ v, FP.dmul d214 d215 = v := ⟨_, rfl⟩
  rw [h_d216] at Dd216
  refine s_dmul X212 hx (hb hby d2_105) d216 h_d216 Dd216.nn 106 rfl ?_
  refine s_ldc2D X212 hx (hb hby d2_106) hZ hown (wd hw 31 _ rfl) 109 rfl ?_
  refine s_dloadN X212 hx (hb hby d2_109) rfl 110 rfl ?_
  refine s_dconst1 X212 hx (hb hby d2_110) (4607182418800017408 : UInt64) rfl 111 rfl ?_
  have Dd217 := Db.sub H_k dc_4607182418800017408 (by decide)
  obtain ⟨d217, h_d217⟩ : ∃ v, FP.dsub k (4607182418800017408 : UInt64) = v := ⟨_, rfl⟩
  rw [h_d217] at Dd217
  refine s_dsub X212 hx (hb hby d2_111) d217 h_d217 Dd217.nn 112 rfl ?_
  have Dd218 := Db.mul dc_4613937818241073152 Dd217 (by decide)
  obtain ⟨d218, h_d218⟩ : ∃ v, FP.dmul (4613937818241073152 : UInt64) d217 = v := ⟨_, rfl⟩
  rw [h_d218] at Dd218
  refine s_dmul X212 hx (hb hby d2_112) d218 h_d218 Dd218.nn 113 rfl ?_
  refine s_dload X212 hx (hb hby d2_113) rfl 115 rfl ?_
  have Dd219 := Db.mul Dd218 H_ks (by decide)
  obtain ⟨d219, h_d219⟩ : ∃ v, FP.dmul d218 ks = v := ⟨_, rfl⟩
  rw [h_d219] at Dd219
  refine s_dmul X212 hx (hb hby d2_115) d219 h_d219 Dd219.nn 116 rfl ?_
  have Dd220 := Db.add Dd216 Dd219 (by decide)
  obtain ⟨d220, h_d220⟩ : ∃ v, FP.dadd d216 d219 = v := ⟨_, rfl⟩
  rw [h_d220] at Dd220
  refine s_dadd X212 hx (hb hby d2_116) d220 h_d220 Dd220.nn 117 rfl ?_
  refine s_dload X212 hx (hb hby d2_117) rfl 119 rfl ?_
  have Dd221 := Db.add Dd220 H_kc (by decide)
  obtain ⟨d221, h_d221⟩ : ∃ v, FP.dadd d220 kc = v := ⟨_, rfl⟩
  rw [h_d221] at Dd221
  refine s_dadd X212 hx (hb hby d2_119) d221 h_d221 Dd221.nn 120 rfl ?_
  refine s_dloadN X212 hx (hb hby d2_120) rfl 121 rfl ?_
  have Dd222 := Db.mul Dd221 H_t (by decide)
  obtain ⟨d222, h_d222⟩ : ∃ v, FP.dmul d221 t = v := ⟨_, rfl⟩
  rw [h_d222] at Dd222
  refine s_dmul X212 hx (hb hby d2_121) d222 h_d222 Dd222.nn 122 rfl ?_
  have Dd223 := Db.add H_7 Dd222 (by decide)
  obtain ⟨d223, h_d223⟩ : ∃ v, FP.dadd f7 d222 = v := ⟨_, rfl⟩
  rw [h_d223] at Dd223
  refine s_dadd X212 hx (hb hby d2_122) d223 h_d223 Dd223.nn 123 rfl ?_
  obtain ⟨T224, h224, X224, e224, W224, st224⟩ := putF X212 hx hZ hown (host := "") (Or.inl (wd hw 28 _ rfl)) Via.refl e212 F209 F203 (Or.inl (wd hw 29 _ rfl)) (wd hw 3 _ rfl) (ty := .double) (by decide) rfl rfl (g := (mkF m 123 #[.val (.ref a1), .val (.double t), .second, .val (.double k), .second, .val (.double ks), .second, .val (.double kc), .second, .val (.double j), .second, .val (.double js), .second] [.double d223, .ref a1])) rfl rfl (hb hby d2_123)
  have N224 := Fr.snoc X224 N201 g1
  have F225 := F209.same W224
  have F226 := F203.wr W224
  have F227 := F204.other W224 (Or.inr (slot_ne (a0 := a0) (t := .double) (t' := .double) (Or.inl (wd hw 17 _ rfl)) (Or.inl (wd hw 29 _ rfl)) (by decide) (by decide) (by decide)))
  have F228 := F205.other W224 (Or.inr (slot_ne (a0 := a0) (t := .double) (t' := .double) (Or.inl (wd hw 19 _ rfl)) (Or.inl (wd hw 29 _ rfl)) (by decide) (by decide) (by decide)))
  have F229 := F206.other W224 (Or.inr (slot_ne (a0 := a0) (t := .double) (t' := .double) (Or.inl (wd hw 21 _ rfl)) (Or.inl (wd hw 29 _ rfl)) (by decide) (by decide) (by decide)))
  have F230 := F207.other W224 (Or.inr (slot_ne (a0 := a0) (t := .double) (t' := .double) (Or.inl (wd hw 23 _ rfl)) (Or.inl (wd hw 29 _ rfl)) (by decide) (by decide) (by decide)))
  have F231 := F208.other W224 (Or.inr (slot_ne (a0 := a0) (t := .double) (t' := .double) (Or.inl (wd hw 25 _ rfl)) (Or.inl (wd hw 29 _ rfl)) (by decide) (by decide) (by decide)))
  have F232 := F202.other W224 (Or.inr (slot_ne (a0 := a0) (t := .double) (t' := .double) (Or.inl (wd hw 27 _ rfl)) (Or.inl (wd hw 29 _ rfl)) (by decide) (by decide) (by decide)))
  have Z233 : n0 ≤ h224.size := by rw [W224.size]; exact Z210
  have K234 := K211.wr W224 (Or.inl (by simp))
  refine Go.via st224 ?_
  show Go p e below _ (T224.setTop (mkF m 126 #[.val (.ref a1), .val (.double t), .second, .val (.double k), .second, .val (.double ks), .second, .val (.double kc), .second, .val (.double j), .second, .val (.double js), .second] []))
  exact retV X224 hx hlk hret (hb hby d2_126) e224 ⟨rfl, N224, K234, d123, d137, d154, d168, d185, d200, d223, ⟨F227, Dd123.weak (by decide)⟩, ⟨F228, Dd137.weak (by decide)⟩, ⟨F229, Dd154.weak (by decide)⟩, ⟨F230, Dd168.weak (by decide)⟩, ⟨F231, Dd185.weak (by decide)⟩, ⟨F232, Dd200.weak (by decide)⟩, ⟨F225, Dd223.weak (by decide)⟩⟩ (by decide) (by decide)
theorem d3_0 : decode method_2_code 0 = .ok (.lload_n 0, 1) := by decide +kernel
theorem d3_1 : decode method_2_code 1 = .ok (.lload_n 2, 1) := by decide +kernel
theorem d3_2 : decode method_2_code 2 = .ok (.lload_n 2, 1) := by decide +kernel
theorem d3_3 : decode method_2_code 3 = .ok (.lmul, 1) := by decide +kernel
theorem d3_4 : decode method_2_code 4 = .ok (.lload_n 2, 1) := by decide +kernel
theorem d3_5 : decode method_2_code 5 = .ok (.lconst 1, 1) := by decide +kernel
theorem d3_6 : decode method_2_code 6 = .ok (.ladd, 1) := by decide +kernel
theorem d3_7 : decode method_2_code 7 = .ok (.lmul, 1) := by decide +kernel
theorem d3_8 : decode method_2_code 8 = .ok (.ldc2_w 7, 3) := by decide +kernel
theorem d3_11 : decode method_2_code 11 = .ok (.lload_n 2, 1) := by decide +kernel
theorem d3_12 : decode method_2_code 12 = .ok (.lmul, 1) := by decide +kernel
theorem d3_13 : decode method_2_code 13 = .ok (.lconst 1, 1) := by decide +kernel
theorem d3_14 : decode method_2_code 14 = .ok (.ladd, 1) := by decide +kernel
theorem d3_15 : decode method_2_code 15 = .ok (.lload 4, 2) := by decide +kernel
theorem d3_17 : decode method_2_code 17 = .ok (.lmul, 1) := by decide +kernel
theorem d3_18 : decode method_2_code 18 = .ok (.ladd, 1) := by decide +kernel
theorem d3_19 : decode method_2_code 19 = .ok (.lload 6, 2) := by decide +kernel
theorem d3_21 : decode method_2_code 21 = .ok (.ladd, 1) := by decide +kernel
theorem d3_22 : decode method_2_code 22 = .ok (.lmul, 1) := by decide +kernel
theorem d3_23 : decode method_2_code 23 = .ok (.lreturn, 1) := by decide +kernel
theorem pd_3 : parseMethodDescriptor "(JJJJ)J" = some ⟨[.long, .long, .long, .long], some .long⟩ := by decide +kernel
theorem pn_3 : plainFor (⟨"com/example/entalpi/entalpi/fluids/DerivativesStiffnessSlopePinLaw", "ref", "(JJJJ)J"⟩ : MethodName) = true := plainFor_of_name (by show plainName "com/example/entalpi/entalpi/fluids/DerivativesStiffnessSlopePinLaw" = true; first | (simp [plainName, overriddenIn]; done) | decide +kernel)
set_option maxRecDepth 65536 in
set_option maxHeartbeats 40000000 in
theorem rm_ref (l : Launch) (Z : State) (a0 : Array Value) (hw : ∀ d ∈ tables_1, d.before a0 Z = true) (ws : List Jvm.Cond) (t k ks kc : Int64) (T K KS KC : Int) (h0 : Heap) (n0 : Nat) (Z0 : n0 ≤ h0.size) (H_t : Lb 4096 T t) (H_k : Lb 256 K k) (H_ks : Lb 4096 KS ks) (H_kc : Lb 4096 KC kc) :
    Ct l Z (⟨"com/example/entalpi/entalpi/fluids/DerivativesStiffnessSlopePinLaw", "ref", "(JJJJ)J"⟩ : MethodName) method_2_code 8 (some .long) ws ({ frames := 0, cells := 0, slots := 0, locals := 0 } : Room) #[.long t, .long k, .long ks, .long kc] h0 (fun v h L => ∃ r, v = some (.long r) ∧ Fr n0 L ∧ h = h0 ∧ Lb 281474976710656 (T * (K * K * (K + 1) + (3 * K + 1) * KS + KC)) r) := by
  refine Ct.intro pn_3 #[.val (.long t), .second, .val (.long k), .second, .val (.long ks), .second, .val (.long kc), .second] (fun _ => by first | (simp [entryFrame, mkF, argsToLocals, Value.category, maxLocals]; done) | rfl) ?_
  intro p e s m below meth c T0 X0 hx hZ hby hml hown hnm hret hlk e0
  have N0 := Fr.nil n0
  refine s_lloadN X0 hx (hb hby d3_0) rfl 1 rfl ?_
  refine s_lloadN X0 hx (hb hby d3_1) rfl 2 rfl ?_
  refine s_lloadN X0 hx (hb hby d3_2) rfl 3 rfl ?_
  have B235 := Lb.mul H_k H_k (by decide)
  refine s_lmul X0 hx (hb hby d3_3) (k * k) rfl 4 rfl ?_
  refine s_lloadN X0 hx (hb hby d3_4) rfl 5 rfl ?_
  refine s_lconst X0 hx (hb hby d3_5) (1 : Int64) rfl 6 rfl ?_
  have B236 := Lb.add H_k (Lb.lit 1 (1) (1 : Int64)) (by decide)
  refine s_ladd X0 hx (hb hby d3_6) (k + (1 : Int64)) rfl 7 rfl ?_
  have B237 := Lb.mul B235 B236 (by decide)
  refine s_lmul X0 hx (hb hby d3_7) ((k * k) * (k + (1 : Int64))) rfl 8 rfl ?_
  refine s_ldc2J X0 hx (hb hby d3_8) hZ hown (wd hw 36 _ rfl) 11 rfl ?_
  refine s_lloadN X0 hx (hb hby d3_11) rfl 12 rfl ?_
  have B238 := Lb.mul (Lb.lit 3 (3) (3 : Int64)) H_k (by decide)
  refine s_lmul X0 hx (hb hby d3_12) ((3 : Int64) * k) rfl 13 rfl ?_
  refine s_lconst X0 hx (hb hby d3_13) (1 : Int64) rfl 14 rfl ?_
  have B239 := Lb.add B238 (Lb.lit 1 (1) (1 : Int64)) (by decide)
  refine s_ladd X0 hx (hb hby d3_14) (((3 : Int64) * k) + (1 : Int64)) rfl 15 rfl ?_
  refine s_lload X0 hx (hb hby d3_15) rfl 17 rfl ?_
  have B240 := Lb.mul B239 H_ks (by decide)
  refine s_lmul X0 hx (hb hby d3_17) ((((3 : Int64) * k) + (1 : Int64)) * ks) rfl 18 rfl ?_
  have B241 := Lb.add B237 B240 (by decide)
  refine s_ladd X0 hx (hb hby d3_18) (((k * k) * (k + (1 : Int64))) + ((((3 : Int64) * k) + (1 : Int64)) * ks)) rfl 19 rfl ?_
  refine s_lload X0 hx (hb hby d3_19) rfl 21 rfl ?_
  have B242 := Lb.add B241 H_kc (by decide)
  refine s_ladd X0 hx (hb hby d3_21) ((((k * k) * (k + (1 : Int64))) + ((((3 : Int64) * k) + (1 : Int64)) * ks)) + kc) rfl 22 rfl ?_
  have B243 := Lb.mul H_t B242 (by decide)
  refine s_lmul X0 hx (hb hby d3_22) (t * ((((k * k) * (k + (1 : Int64))) + ((((3 : Int64) * k) + (1 : Int64)) * ks)) + kc)) rfl 23 rfl ?_
  exact retJ X0 hx hlk hret (hb hby d3_23) e0 ⟨_, rfl, N0, rfl, B243.weak (by decide)⟩ (by decide) (by decide)
set_option maxRecDepth 65536 in
set_option maxHeartbeats 40000000 in
theorem rm_law (l : Launch) (Z : State) (a0 : Array Value) (hw : ∀ d ∈ tables_1, d.before a0 Z = true) (ws : List Jvm.Cond) (i0 i1 i2 i3 : Int32) (i4 : Int64) (i5 : Int32) (h0 : Heap) (n0 : Nat) (Z0 : n0 ≤ h0.size)  :
    Ct l Z x code maxLocals ret ws room_1 #[.int i0, .int i1, .int i2, .int i3, .long i4, .int i5] h0 (fun v h L => v = some (.int 1) ∧ Fr n0 L) := by
  refine Ct.intro pn_law #[.val (.int i0), .val (.int i1), .val (.int i2), .val (.int i3), .val (.long i4), .second, .val (.int i5), .unset, .unset, .unset, .unset, .unset, .unset, .unset, .unset, .unset, .unset, .unset, .unset, .unset, .unset, .unset] (fun _ => by first | (simp [entryFrame, mkF, argsToLocals, Value.category, maxLocals]; done) | rfl) ?_
  intro p e s m below meth c T0 X0 hx hZ hby hml hown hnm hret hlk e0
  have N0 := Fr.nil n0
  refine s_iloadN X0 hx (hb hby at_0) rfl 1 rfl ?_
  refine s_sipush X0 hx (hb hby at_1) (2047 : Int32) rfl 4 rfl ?_
  refine s_iand X0 hx (hb hby at_4) (i0 &&& (2047 : Int32)) rfl 5 rfl ?_
  refine s_sipush X0 hx (hb hby at_5) (1024 : Int32) rfl 8 rfl ?_
  have B244 := Ib.sub (own_and i0 2047 11 (by decide) (by decide) 2047 (by decide)) (Ib.lit 1024 (1024) (1024 : Int32)) (by decide)
  refine s_isub X0 hx (hb hby at_8) ((i0 &&& (2047 : Int32)) - (1024 : Int32)) rfl 9 rfl ?_
  obtain ⟨ta, h_ta⟩ : ∃ v, v = ((i0 &&& (2047 : Int32)) - (1024 : Int32)) := ⟨_, rfl⟩
  have B_ta := B244.re
  rw [← h_ta] at B_ta
  refine s_istore X0 hx (hb hby at_9) #[.val (.int i0), .val (.int i1), .val (.int i2), .val (.int i3), .val (.long i4), .second, .val (.int i5), .val (.int ta), .unset, .unset, .unset, .unset, .unset, .unset, .unset, .unset, .unset, .unset, .unset, .unset, .unset, .unset] (by rw [h_ta]; rfl) 11 rfl ?_
  refine s_iloadN X0 hx (hb hby at_11) rfl 12 rfl ?_
  refine s_bipush X0 hx (hb hby at_12) (127 : Int32) rfl 14 rfl ?_
  refine s_iand X0 hx (hb hby at_14) (i1 &&& (127 : Int32)) rfl 15 rfl ?_
  refine s_bipush X0 hx (hb hby at_15) (64 : Int32) rfl 17 rfl ?_
  have B245 := Ib.sub (own_and i1 127 7 (by decide) (by decide) 127 (by decide)) (Ib.lit 64 (64) (64 : Int32)) (by decide)
  refine s_isub X0 hx (hb hby at_17) ((i1 &&& (127 : Int32)) - (64 : Int32)) rfl 18 rfl ?_
  obtain ⟨ka, h_ka⟩ : ∃ v, v = ((i1 &&& (127 : Int32)) - (64 : Int32)) := ⟨_, rfl⟩
  have B_ka := B245.re
  rw [← h_ka] at B_ka
  refine s_istore X0 hx (hb hby at_18) #[.val (.int i0), .val (.int i1), .val (.int i2), .val (.int i3), .val (.long i4), .second, .val (.int i5), .val (.int ta), .val (.int ka), .unset, .unset, .unset, .unset, .unset, .unset, .unset, .unset, .unset, .unset, .unset, .unset, .unset] (by rw [h_ka]; rfl) 20 rfl ?_
  refine s_iloadN X0 hx (hb hby at_20) rfl 21 rfl ?_
  refine s_sipush X0 hx (hb hby at_21) (2047 : Int32) rfl 24 rfl ?_
  refine s_iand X0 hx (hb hby at_24) (i2 &&& (2047 : Int32)) rfl 25 rfl ?_
  refine s_sipush X0 hx (hb hby at_25) (1024 : Int32) rfl 28 rfl ?_
  have B246 := Ib.sub (own_and i2 2047 11 (by decide) (by decide) 2047 (by decide)) (Ib.lit 1024 (1024) (1024 : Int32)) (by decide)
  refine s_isub X0 hx (hb hby at_28) ((i2 &&& (2047 : Int32)) - (1024 : Int32)) rfl 29 rfl ?_
  obtain ⟨ksa, h_ksa⟩ : ∃ v, v = ((i2 &&& (2047 : Int32)) - (1024 : Int32)) := ⟨_, rfl⟩
  have B_ksa := B246.re
  rw [← h_ksa] at B_ksa
  refine s_istore X0 hx (hb hby at_29) #[.val (.int i0), .val (.int i1), .val (.int i2), .val (.int i3), .val (.long i4), .second, .val (.int i5), .val (.int ta), .val (.int ka), .val (.int ksa), .unset, .unset, .unset, .unset, .unset, .unset, .unset, .unset, .unset, .unset, .unset, .unset] (by rw [h_ksa]; rfl) 31 rfl ?_
  refine s_iloadN X0 hx (hb hby at_31) rfl 32 rfl ?_
  refine s_sipush X0 hx (hb hby at_32) (2047 : Int32) rfl 35 rfl ?_
  refine s_iand X0 hx (hb hby at_35) (i3 &&& (2047 : Int32)) rfl 36 rfl ?_
  refine s_sipush X0 hx (hb hby at_36) (1024 : Int32) rfl 39 rfl ?_
  have B247 := Ib.sub (own_and i3 2047 11 (by decide) (by decide) 2047 (by decide)) (Ib.lit 1024 (1024) (1024 : Int32)) (by decide)
  refine s_isub X0 hx (hb hby at_39) ((i3 &&& (2047 : Int32)) - (1024 : Int32)) rfl 40 rfl ?_
  obtain ⟨kca, h_kca⟩ : ∃ v, v = ((i3 &&& (2047 : Int32)) - (1024 : Int32)) := ⟨_, rfl⟩
  have B_kca := B247.re
  rw [← h_kca] at B_kca
  refine s_istore X0 hx (hb hby at_40) #[.val (.int i0), .val (.int i1), .val (.int i2), .val (.int i3), .val (.long i4), .second, .val (.int i5), .val (.int ta), .val (.int ka), .val (.int ksa), .val (.int kca), .unset, .unset, .unset, .unset, .unset, .unset, .unset, .unset, .unset, .unset, .unset] (by rw [h_kca]; rfl) 42 rfl ?_
  refine s_lload X0 hx (hb hby at_42) rfl 44 rfl ?_
  refine s_ldc2J X0 hx (hb hby at_44) hZ hown (wd hw 0 _ rfl) 47 rfl ?_
  refine s_land X0 hx (hb hby at_47) (i4 &&& (2047 : Int64)) rfl 48 rfl ?_
  have B248 := Lb.l2i (own_andL i4 2047 11 (by decide) (by decide) 2047 (by decide)) (by decide)
  refine s_l2i X0 hx (hb hby at_48) ((i4 &&& (2047 : Int64)).toInt32) rfl 49 rfl ?_
  refine s_sipush X0 hx (hb hby at_49) (1024 : Int32) rfl 52 rfl ?_
  have B249 := Ib.sub B248 (Ib.lit 1024 (1024) (1024 : Int32)) (by decide)
  refine s_isub X0 hx (hb hby at_52) ((i4 &&& (2047 : Int64)).toInt32 - (1024 : Int32)) rfl 53 rfl ?_
  obtain ⟨tb, h_tb⟩ : ∃ v, v = ((i4 &&& (2047 : Int64)).toInt32 - (1024 : Int32)) := ⟨_, rfl⟩
  have B_tb := B249.re
  rw [← h_tb] at B_tb
  refine s_istore X0 hx (hb hby at_53) #[.val (.int i0), .val (.int i1), .val (.int i2), .val (.int i3), .val (.long i4), .second, .val (.int i5), .val (.int ta), .val (.int ka), .val (.int ksa), .val (.int kca), .val (.int tb), .unset, .unset, .unset, .unset, .unset, .unset, .unset, .unset, .unset, .unset] (by rw [h_tb]; rfl) 55 rfl ?_
  refine s_lload X0 hx (hb hby at_55) rfl 57 rfl ?_
  refine s_bipush X0 hx (hb hby at_57) (11 : Int32) rfl 59 rfl ?_
  refine s_lshr X0 hx (hb hby at_59) (i4 >>> ((11 : Int32) &&& 0x3f).toInt64) rfl 60 rfl ?_
  refine s_ldc2J X0 hx (hb hby at_60) hZ hown (wd hw 1 _ rfl) 63 rfl ?_
  refine s_land X0 hx (hb hby at_63) ((i4 >>> ((11 : Int32) &&& 0x3f).toInt64) &&& (127 : Int64)) rfl 64 rfl ?_
  have B250 := Lb.l2i (own_andL (i4 >>> ((11 : Int32) &&& 0x3f).toInt64) 127 7 (by decide) (by decide) 127 (by decide)) (by decide)
  refine s_l2i X0 hx (hb hby at_64) (((i4 >>> ((11 : Int32) &&& 0x3f).toInt64) &&& (127 : Int64)).toInt32) rfl 65 rfl ?_
  refine s_bipush X0 hx (hb hby at_65) (64 : Int32) rfl 67 rfl ?_
  have B251 := Ib.sub B250 (Ib.lit 64 (64) (64 : Int32)) (by decide)
  refine s_isub X0 hx (hb hby at_67) (((i4 >>> ((11 : Int32) &&& 0x3f).toInt64) &&& (127 : Int64)).toInt32 - (64 : Int32)) rfl 68 rfl ?_
  obtain ⟨kb, h_kb⟩ : ∃ v, v = (((i4 >>> ((11 : Int32) &&& 0x3f).toInt64) &&& (127 : Int64)).toInt32 - (64 : Int32)) := ⟨_, rfl⟩
  have B_kb := B251.re
  rw [← h_kb] at B_kb
  refine s_istore X0 hx (hb hby at_68) #[.val (.int i0), .val (.int i1), .val (.int i2), .val (.int i3), .val (.long i4), .second, .val (.int i5), .val (.int ta), .val (.int ka), .val (.int ksa), .val (.int kca), .val (.int tb), .val (.int kb), .unset, .unset, .unset, .unset, .unset, .unset, .unset, .unset, .unset] (by rw [h_kb]; rfl) 70 rfl ?_
  refine s_lload X0 hx (hb hby at_70) rfl 72 rfl ?_
  refine s_bipush X0 hx (hb hby at_72) (18 : Int32) rfl 74 rfl ?_
  refine s_lshr X0 hx (hb hby at_74) (i4 >>> ((18 : Int32) &&& 0x3f).toInt64) rfl 75 rfl ?_
  refine s_ldc2J X0 hx (hb hby at_75) hZ hown (wd hw 0 _ rfl) 78 rfl ?_
  refine s_land X0 hx (hb hby at_78) ((i4 >>> ((18 : Int32) &&& 0x3f).toInt64) &&& (2047 : Int64)) rfl 79 rfl ?_
  have B252 := Lb.l2i (own_andL (i4 >>> ((18 : Int32) &&& 0x3f).toInt64) 2047 11 (by decide) (by decide) 2047 (by decide)) (by decide)
  refine s_l2i X0 hx (hb hby at_79) (((i4 >>> ((18 : Int32) &&& 0x3f).toInt64) &&& (2047 : Int64)).toInt32) rfl 80 rfl ?_
  refine s_sipush X0 hx (hb hby at_80) (1024 : Int32) rfl 83 rfl ?_
  have B253 := Ib.sub B252 (Ib.lit 1024 (1024) (1024 : Int32)) (by decide)
  refine s_isub X0 hx (hb hby at_83) (((i4 >>> ((18 : Int32) &&& 0x3f).toInt64) &&& (2047 : Int64)).toInt32 - (1024 : Int32)) rfl 84 rfl ?_
  obtain ⟨ksb, h_ksb⟩ : ∃ v, v = (((i4 >>> ((18 : Int32) &&& 0x3f).toInt64) &&& (2047 : Int64)).toInt32 - (1024 : Int32)) := ⟨_, rfl⟩
  have B_ksb := B253.re
  rw [← h_ksb] at B_ksb
  refine s_istore X0 hx (hb hby at_84) #[.val (.int i0), .val (.int i1), .val (.int i2), .val (.int i3), .val (.long i4), .second, .val (.int i5), .val (.int ta), .val (.int ka), .val (.int ksa), .val (.int kca), .val (.int tb), .val (.int kb), .val (.int ksb), .unset, .unset, .unset, .unset, .unset, .unset, .unset, .unset] (by rw [h_ksb]; rfl) 86 rfl ?_
  refine s_lload X0 hx (hb hby at_86) rfl 88 rfl ?_
  refine s_bipush X0 hx (hb hby at_88) (29 : Int32) rfl 90 rfl ?_
  refine s_lshr X0 hx (hb hby at_90) (i4 >>> ((29 : Int32) &&& 0x3f).toInt64) rfl 91 rfl ?_
  refine s_ldc2J X0 hx (hb hby at_91) hZ hown (wd hw 0 _ rfl) 94 rfl ?_
  refine s_land X0 hx (hb hby at_94) ((i4 >>> ((29 : Int32) &&& 0x3f).toInt64) &&& (2047 : Int64)) rfl 95 rfl ?_
  have B254 := Lb.l2i (own_andL (i4 >>> ((29 : Int32) &&& 0x3f).toInt64) 2047 11 (by decide) (by decide) 2047 (by decide)) (by decide)
  refine s_l2i X0 hx (hb hby at_95) (((i4 >>> ((29 : Int32) &&& 0x3f).toInt64) &&& (2047 : Int64)).toInt32) rfl 96 rfl ?_
  refine s_sipush X0 hx (hb hby at_96) (1024 : Int32) rfl 99 rfl ?_
  have B255 := Ib.sub B254 (Ib.lit 1024 (1024) (1024 : Int32)) (by decide)
  refine s_isub X0 hx (hb hby at_99) (((i4 >>> ((29 : Int32) &&& 0x3f).toInt64) &&& (2047 : Int64)).toInt32 - (1024 : Int32)) rfl 100 rfl ?_
  obtain ⟨kcb, h_kcb⟩ : ∃ v, v = (((i4 >>> ((29 : Int32) &&& 0x3f).toInt64) &&& (2047 : Int64)).toInt32 - (1024 : Int32)) := ⟨_, rfl⟩
  have B_kcb := B255.re
  rw [← h_kcb] at B_kcb
  refine s_istore X0 hx (hb hby at_100) #[.val (.int i0), .val (.int i1), .val (.int i2), .val (.int i3), .val (.long i4), .second, .val (.int i5), .val (.int ta), .val (.int ka), .val (.int ksa), .val (.int kca), .val (.int tb), .val (.int kb), .val (.int ksb), .val (.int kcb), .unset, .unset, .unset, .unset, .unset, .unset, .unset] (by rw [h_kcb]; rfl) 102 rfl ?_
  refine s_iload X0 hx (hb hby at_102) rfl 104 rfl ?_
  refine s_bipush X0 hx (hb hby at_104) (63 : Int32) rfl 106 rfl ?_
  refine s_iand X0 hx (hb hby at_106) (i5 &&& (63 : Int32)) rfl 107 rfl ?_
  refine s_bipush X0 hx (hb hby at_107) (32 : Int32) rfl 109 rfl ?_
  have B256 := Ib.sub (own_and i5 63 6 (by decide) (by decide) 63 (by decide)) (Ib.lit 32 (32) (32 : Int32)) (by decide)
  refine s_isub X0 hx (hb hby at_109) ((i5 &&& (63 : Int32)) - (32 : Int32)) rfl 110 rfl ?_
  obtain ⟨ja, h_ja⟩ : ∃ v, v = ((i5 &&& (63 : Int32)) - (32 : Int32)) := ⟨_, rfl⟩
  have B_ja := B256.re
  rw [← h_ja] at B_ja
  refine s_istore X0 hx (hb hby at_110) #[.val (.int i0), .val (.int i1), .val (.int i2), .val (.int i3), .val (.long i4), .second, .val (.int i5), .val (.int ta), .val (.int ka), .val (.int ksa), .val (.int kca), .val (.int tb), .val (.int kb), .val (.int ksb), .val (.int kcb), .val (.int ja), .unset, .unset, .unset, .unset, .unset, .unset] (by rw [h_ja]; rfl) 112 rfl ?_
  refine s_iload X0 hx (hb hby at_112) rfl 114 rfl ?_
  refine s_bipush X0 hx (hb hby at_114) (6 : Int32) rfl 116 rfl ?_
  refine s_ishr X0 hx (hb hby at_116) (i5 >>> ((6 : Int32) &&& 31)) rfl 117 rfl ?_
  refine s_bipush X0 hx (hb hby at_117) (63 : Int32) rfl 119 rfl ?_
  refine s_iand X0 hx (hb hby at_119) ((i5 >>> ((6 : Int32) &&& 31)) &&& (63 : Int32)) rfl 120 rfl ?_
  refine s_bipush X0 hx (hb hby at_120) (32 : Int32) rfl 122 rfl ?_
  have B257 := Ib.sub (own_and (i5 >>> ((6 : Int32) &&& 31)) 63 6 (by decide) (by decide) 63 (by decide)) (Ib.lit 32 (32) (32 : Int32)) (by decide)
  refine s_isub X0 hx (hb hby at_122) (((i5 >>> ((6 : Int32) &&& 31)) &&& (63 : Int32)) - (32 : Int32)) rfl 123 rfl ?_
  obtain ⟨jsa, h_jsa⟩ : ∃ v, v = (((i5 >>> ((6 : Int32) &&& 31)) &&& (63 : Int32)) - (32 : Int32)) := ⟨_, rfl⟩
  have B_jsa := B257.re
  rw [← h_jsa] at B_jsa
  refine s_istore X0 hx (hb hby at_123) #[.val (.int i0), .val (.int i1), .val (.int i2), .val (.int i3), .val (.long i4), .second, .val (.int i5), .val (.int ta), .val (.int ka), .val (.int ksa), .val (.int kca), .val (.int tb), .val (.int kb), .val (.int ksb), .val (.int kcb), .val (.int ja), .val (.int jsa), .unset, .unset, .unset, .unset, .unset] (by rw [h_jsa]; rfl) 125 rfl ?_
  refine s_iload X0 hx (hb hby at_125) rfl 127 rfl ?_
  refine s_bipush X0 hx (hb hby at_127) (12 : Int32) rfl 129 rfl ?_
  refine s_ishr X0 hx (hb hby at_129) (i5 >>> ((12 : Int32) &&& 31)) rfl 130 rfl ?_
  refine s_bipush X0 hx (hb hby at_130) (63 : Int32) rfl 132 rfl ?_
  refine s_iand X0 hx (hb hby at_132) ((i5 >>> ((12 : Int32) &&& 31)) &&& (63 : Int32)) rfl 133 rfl ?_
  refine s_bipush X0 hx (hb hby at_133) (32 : Int32) rfl 135 rfl ?_
  have B258 := Ib.sub (own_and (i5 >>> ((12 : Int32) &&& 31)) 63 6 (by decide) (by decide) 63 (by decide)) (Ib.lit 32 (32) (32 : Int32)) (by decide)
  refine s_isub X0 hx (hb hby at_135) (((i5 >>> ((12 : Int32) &&& 31)) &&& (63 : Int32)) - (32 : Int32)) rfl 136 rfl ?_
  obtain ⟨jb, h_jb⟩ : ∃ v, v = (((i5 >>> ((12 : Int32) &&& 31)) &&& (63 : Int32)) - (32 : Int32)) := ⟨_, rfl⟩
  have B_jb := B258.re
  rw [← h_jb] at B_jb
  refine s_istore X0 hx (hb hby at_136) #[.val (.int i0), .val (.int i1), .val (.int i2), .val (.int i3), .val (.long i4), .second, .val (.int i5), .val (.int ta), .val (.int ka), .val (.int ksa), .val (.int kca), .val (.int tb), .val (.int kb), .val (.int ksb), .val (.int kcb), .val (.int ja), .val (.int jsa), .val (.int jb), .unset, .unset, .unset, .unset] (by rw [h_jb]; rfl) 138 rfl ?_
  refine s_iload X0 hx (hb hby at_138) rfl 140 rfl ?_
  refine s_bipush X0 hx (hb hby at_140) (18 : Int32) rfl 142 rfl ?_
  refine s_ishr X0 hx (hb hby at_142) (i5 >>> ((18 : Int32) &&& 31)) rfl 143 rfl ?_
  refine s_bipush X0 hx (hb hby at_143) (63 : Int32) rfl 145 rfl ?_
  refine s_iand X0 hx (hb hby at_145) ((i5 >>> ((18 : Int32) &&& 31)) &&& (63 : Int32)) rfl 146 rfl ?_
  refine s_bipush X0 hx (hb hby at_146) (32 : Int32) rfl 148 rfl ?_
  have B259 := Ib.sub (own_and (i5 >>> ((18 : Int32) &&& 31)) 63 6 (by decide) (by decide) 63 (by decide)) (Ib.lit 32 (32) (32 : Int32)) (by decide)
  refine s_isub X0 hx (hb hby at_148) (((i5 >>> ((18 : Int32) &&& 31)) &&& (63 : Int32)) - (32 : Int32)) rfl 149 rfl ?_
  obtain ⟨jsb, h_jsb⟩ : ∃ v, v = (((i5 >>> ((18 : Int32) &&& 31)) &&& (63 : Int32)) - (32 : Int32)) := ⟨_, rfl⟩
  have B_jsb := B259.re
  rw [← h_jsb] at B_jsb
  refine s_istore X0 hx (hb hby at_149) #[.val (.int i0), .val (.int i1), .val (.int i2), .val (.int i3), .val (.long i4), .second, .val (.int i5), .val (.int ta), .val (.int ka), .val (.int ksa), .val (.int kca), .val (.int tb), .val (.int kb), .val (.int ksb), .val (.int kcb), .val (.int ja), .val (.int jsa), .val (.int jb), .val (.int jsb), .unset, .unset, .unset] (by rw [h_jsb]; rfl) 151 rfl ?_
  obtain ⟨T260, h260, X260, e260, E260, A260, D260, -, st260⟩ := newO X0 hx hZ hown (wd hw 2 _ rfl) (wd hw 3 _ rfl) (wd hw 4 _ rfl) e0 (g := (mkF m 151 #[.val (.int i0), .val (.int i1), .val (.int i2), .val (.int i3), .val (.long i4), .second, .val (.int i5), .val (.int ta), .val (.int ka), .val (.int ksa), .val (.int kca), .val (.int tb), .val (.int kb), .val (.int ksb), .val (.int kcb), .val (.int ja), .val (.int jsa), .val (.int jb), .val (.int jsb), .unset, .unset, .unset] [])) rfl (hb hby at_151) (by decide) (by decide)
  obtain ⟨a260, g260⟩ : ∃ z, z = h0.size := ⟨_, rfl⟩
  rw [← g260] at A260 D260 st260
  have q261 : n0 ≤ a260 := by rw [g260]; exact Z0
  have Z262 := Nat.le_trans Z0 E260.1
  have F263 : Fld Z h260 a260 "com/example/entalpi/entalpi/fluids/Derivatives" "alpha" "D" (.double (0 : UInt64)) := D260 (Or.inl (wd hw 17 _ rfl)) (ty := .double) (by decide)
  have F264 : Fld Z h260 a260 "com/example/entalpi/entalpi/fluids/Derivatives" "tauAlphaTau" "D" (.double (0 : UInt64)) := D260 (Or.inl (wd hw 19 _ rfl)) (ty := .double) (by decide)
  have F265 : Fld Z h260 a260 "com/example/entalpi/entalpi/fluids/Derivatives" "tauTauAlphaTauTau" "D" (.double (0 : UInt64)) := D260 (Or.inl (wd hw 21 _ rfl)) (ty := .double) (by decide)
  have F266 : Fld Z h260 a260 "com/example/entalpi/entalpi/fluids/Derivatives" "deltaResidualDelta" "D" (.double (0 : UInt64)) := D260 (Or.inl (wd hw 23 _ rfl)) (ty := .double) (by decide)
  have F267 : Fld Z h260 a260 "com/example/entalpi/entalpi/fluids/Derivatives" "deltaDeltaResidualDeltaDelta" "D" (.double (0 : UInt64)) := D260 (Or.inl (wd hw 25 _ rfl)) (ty := .double) (by decide)
  have F268 : Fld Z h260 a260 "com/example/entalpi/entalpi/fluids/Derivatives" "deltaTauResidualDeltaTau" "D" (.double (0 : UInt64)) := D260 (Or.inl (wd hw 27 _ rfl)) (ty := .double) (by decide)
  have F269 : Fld Z h260 a260 "com/example/entalpi/entalpi/fluids/Derivatives" "deltaDeltaDeltaResidualDeltaDeltaDelta" "D" (.double (0 : UInt64)) := D260 (Or.inl (wd hw 29 _ rfl)) (ty := .double) (by decide)
  refine Go.via st260 ?_
  show Go p e below _ (T260.setTop (mkF m 154 #[.val (.int i0), .val (.int i1), .val (.int i2), .val (.int i3), .val (.long i4), .second, .val (.int i5), .val (.int ta), .val (.int ka), .val (.int ksa), .val (.int kca), .val (.int tb), .val (.int kb), .val (.int ksb), .val (.int kcb), .val (.int ja), .val (.int jsa), .val (.int jb), .val (.int jsb), .unset, .unset, .unset] [.ref a260]))
  refine s_dup X260 hx (hb hby at_154) rfl 155 rfl ?_
  obtain ⟨v270, T270, L270, X270, hQ270, st270⟩ := callInit X260 hx hZ hown rfl (wd hw 5 _ rfl) (wd hw 6 _ rfl) (wd hw 4 _ rfl) (wd hw 7 _ rfl) (by decide) (rm_init l Z a0 hw [] a260 h260 n0 Z262) e260 (L := #[.val (.int i0), .val (.int i1), .val (.int i2), .val (.int i3), .val (.long i4), .second, .val (.int i5), .val (.int ta), .val (.int ka), .val (.int ksa), .val (.int kca), .val (.int tb), .val (.int kb), .val (.int ksb), .val (.int kcb), .val (.int ja), .val (.int jsa), .val (.int jb), .val (.int jsb), .unset, .unset, .unset]) (hb hby at_155) (by rw [hml]; rfl) a260 [] [.ref a260] rfl rfl pd_0 rfl 1 (by show 2 * 0 + _ ≤ _; exact Nat.le_of_eq rfl) (by decide) (by decide) (by decide) (by decide)
  obtain ⟨rfl, N270, hh270⟩ := hQ270
  have M270 := Fr.app N0 N270
  refine Go.via st270 ?_
  show Go p e below _ (T270.setTop (mkF m 158 #[.val (.int i0), .val (.int i1), .val (.int i2), .val (.int i3), .val (.long i4), .second, .val (.int i5), .val (.int ta), .val (.int ka), .val (.int ksa), .val (.int kca), .val (.int tb), .val (.int kb), .val (.int ksb), .val (.int kcb), .val (.int ja), .val (.int jsa), .val (.int jb), .val (.int jsb), .unset, .unset, .unset] [.ref a260]))
  refine s_astore X270 hx (hb hby at_158) rfl #[.val (.int i0), .val (.int i1), .val (.int i2), .val (.int i3), .val (.long i4), .second, .val (.int i5), .val (.int ta), .val (.int ka), .val (.int ksa), .val (.int kca), .val (.int tb), .val (.int kb), .val (.int ksb), .val (.int kcb), .val (.int ja), .val (.int jsa), .val (.int jb), .val (.int jsb), .val (.ref a260), .unset, .unset] rfl 160 rfl ?_
  refine s_aload X270 hx (hb hby at_160) rfl rfl 162 rfl ?_
  refine s_iload X270 hx (hb hby at_162) rfl 164 rfl ?_
  have Dd271 := Ib.i2d B_ta
  obtain ⟨d271, h_d271⟩ : ∃ v, (FP.i2d ta) = v := ⟨_, rfl⟩
  rw [h_d271] at Dd271
  refine s_i2d X270 hx (hb hby at_164) d271 h_d271 165 rfl ?_
  refine s_iload X270 hx (hb hby at_165) rfl 167 rfl ?_
  have Dd272 := Ib.i2d B_ka
  obtain ⟨d272, h_d272⟩ : ∃ v, (FP.i2d ka) = v := ⟨_, rfl⟩
  rw [h_d272] at Dd272
  refine s_i2d X270 hx (hb hby at_167) d272 h_d272 168 rfl ?_
  refine s_iload X270 hx (hb hby at_168) rfl 170 rfl ?_
  have Dd273 := Ib.i2d B_ksa
  obtain ⟨d273, h_d273⟩ : ∃ v, (FP.i2d ksa) = v := ⟨_, rfl⟩
  rw [h_d273] at Dd273
  refine s_i2d X270 hx (hb hby at_170) d273 h_d273 171 rfl ?_
  refine s_iload X270 hx (hb hby at_171) rfl 173 rfl ?_
  have Dd274 := Ib.i2d B_kca
  obtain ⟨d274, h_d274⟩ : ∃ v, (FP.i2d kca) = v := ⟨_, rfl⟩
  rw [h_d274] at Dd274
  refine s_i2d X270 hx (hb hby at_173) d274 h_d274 174 rfl ?_
  refine s_iload X270 hx (hb hby at_174) rfl 176 rfl ?_
  have Dd275 := Ib.i2d B_ja
  obtain ⟨d275, h_d275⟩ : ∃ v, (FP.i2d ja) = v := ⟨_, rfl⟩
  rw [h_d275] at Dd275
  refine s_i2d X270 hx (hb hby at_176) d275 h_d275 177 rfl ?_
  refine s_iload X270 hx (hb hby at_177) rfl 179 rfl ?_
  have Dd276 := Ib.i2d B_jsa
  obtain ⟨d276, h_d276⟩ : ∃ v, (FP.i2d jsa) = v := ⟨_, rfl⟩
  rw [h_d276] at Dd276
  refine s_i2d X270 hx (hb hby at_179) d276 h_d276 180 rfl ?_
  obtain ⟨v277, T277, L277, X277, hQ277, st277⟩ := callVirt X270 hx hZ hown (wd hw 11 _ rfl) (wd hw 12 _ rfl) (wd hw 14 _ rfl) (wd hw 13 _ rfl) (wd hw 4 _ rfl) (wd hw 15 _ rfl) (by decide) (rm_add1 l Z a0 hw [] a260 d271 d272 d273 d274 d275 d276 _ _ _ _ _ _ (0 : UInt64) (0 : UInt64) (0 : UInt64) (0 : UInt64) (0 : UInt64) (0 : UInt64) (0 : UInt64) _ _ _ _ _ _ _ h260 n0 Z262 A260 q261 F263 F264 F265 F266 F267 F268 F269 (Db.zero.weak (by decide)) (Db.zero.weak (by decide)) (Db.zero.weak (by decide)) (Db.zero.weak (by decide)) (Db.zero.weak (by decide)) (Db.zero.weak (by decide)) (Db.zero.weak (by decide)) (Dd271.weak (by decide)) (Dd272.weak (by decide)) (Dd273.weak (by decide)) (Dd274.weak (by decide)) (Dd275.weak (by decide)) (Dd276.weak (by decide))) hh270 a260 A260 (L := #[.val (.int i0), .val (.int i1), .val (.int i2), .val (.int i3), .val (.long i4), .second, .val (.int i5), .val (.int ta), .val (.int ka), .val (.int ksa), .val (.int kca), .val (.int tb), .val (.int kb), .val (.int ksb), .val (.int kcb), .val (.int ja), .val (.int jsa), .val (.int jb), .val (.int jsb), .val (.ref a260), .unset, .unset]) (hb hby at_180) (by rw [hml]; rfl) [.double d271, .double d272, .double d273, .double d274, .double d275, .double d276] [] rfl rfl pd_2 rfl 0 (by show 2 * 0 + _ ≤ _; exact Nat.le_of_eq rfl) (by decide) (by decide) (by decide) (by decide)
  obtain ⟨rfl, N277, K277, r277_1, r277_2, r277_3, r277_4, r277_5, r277_6, r277_7, ⟨G277_1, H277_1⟩, ⟨G277_2, H277_2⟩, ⟨G277_3, H277_3⟩, ⟨G277_4, H277_4⟩, ⟨G277_5, H277_5⟩, ⟨G277_6, H277_6⟩, ⟨G277_7, H277_7⟩⟩ := hQ277
  have M277 := Fr.app M270 N277
  have F278 := A260.keep K277
  have Z279 := Nat.le_trans Z262 K277.1
  have e277 : T277.heap = T277.heap := rfl
  refine Go.via st277 ?_
  show Go p e below _ (T277.setTop (mkF m 183 #[.val (.int i0), .val (.int i1), .val (.int i2), .val (.int i3), .val (.long i4), .second, .val (.int i5), .val (.int ta), .val (.int ka), .val (.int ksa), .val (.int kca), .val (.int tb), .val (.int kb), .val (.int ksb), .val (.int kcb), .val (.int ja), .val (.int jsa), .val (.int jb), .val (.int jsb), .val (.ref a260), .unset, .unset] []))
  refine s_aload X277 hx (hb hby at_183) rfl rfl 185 rfl ?_
  refine s_iload X277 hx (hb hby at_185) rfl 187 rfl ?_
  have Dd280 := Ib.i2d B_tb
  obtain ⟨d280, h_d280⟩ : ∃ v, (FP.i2d tb) = v := ⟨_, rfl⟩
  rw [h_d280] at Dd280
  refine s_i2d X277 hx (hb hby at_187) d280 h_d280 188 rfl ?_
  refine s_iload X277 hx (hb hby at_188) rfl 190 rfl ?_
  have Dd281 := Ib.i2d B_kb
  obtain ⟨d281, h_d281⟩ : ∃ v, (FP.i2d kb) = v := ⟨_, rfl⟩
  rw [h_d281] at Dd281
  refine s_i2d X277 hx (hb hby at_190) d281 h_d281 191 rfl ?_
  refine s_iload X277 hx (hb hby at_191) rfl 193 rfl ?_
  have Dd282 := Ib.i2d B_ksb
  obtain ⟨d282, h_d282⟩ : ∃ v, (FP.i2d ksb) = v := ⟨_, rfl⟩
  rw [h_d282] at Dd282
  refine s_i2d X277 hx (hb hby at_193) d282 h_d282 194 rfl ?_
  refine s_iload X277 hx (hb hby at_194) rfl 196 rfl ?_
  have Dd283 := Ib.i2d B_kcb
  obtain ⟨d283, h_d283⟩ : ∃ v, (FP.i2d kcb) = v := ⟨_, rfl⟩
  rw [h_d283] at Dd283
  refine s_i2d X277 hx (hb hby at_196) d283 h_d283 197 rfl ?_
  refine s_iload X277 hx (hb hby at_197) rfl 199 rfl ?_
  have Dd284 := Ib.i2d B_jb
  obtain ⟨d284, h_d284⟩ : ∃ v, (FP.i2d jb) = v := ⟨_, rfl⟩
  rw [h_d284] at Dd284
  refine s_i2d X277 hx (hb hby at_199) d284 h_d284 200 rfl ?_
  refine s_iload X277 hx (hb hby at_200) rfl 202 rfl ?_
  have Dd285 := Ib.i2d B_jsb
  obtain ⟨d285, h_d285⟩ : ∃ v, (FP.i2d jsb) = v := ⟨_, rfl⟩
  rw [h_d285] at Dd285
  refine s_i2d X277 hx (hb hby at_202) d285 h_d285 203 rfl ?_
  obtain ⟨v286, T286, L286, X286, hQ286, st286⟩ := callVirt X277 hx hZ hown (wd hw 11 _ rfl) (wd hw 12 _ rfl) (wd hw 14 _ rfl) (wd hw 13 _ rfl) (wd hw 4 _ rfl) (wd hw 15 _ rfl) (by decide) (rm_add2 l Z a0 hw [] a260 d280 d281 d282 d283 d284 d285 _ _ _ _ _ _ r277_1 r277_2 r277_3 r277_4 r277_5 r277_6 r277_7 _ _ _ _ _ _ _ T277.heap n0 Z279 F278 q261 G277_1 G277_2 G277_3 G277_4 G277_5 G277_6 G277_7 (H277_1.weak (by decide)) (H277_2.weak (by decide)) (H277_3.weak (by decide)) (H277_4.weak (by decide)) (H277_5.weak (by decide)) (H277_6.weak (by decide)) (H277_7.weak (by decide)) (Dd280.weak (by decide)) (Dd281.weak (by decide)) (Dd282.weak (by decide)) (Dd283.weak (by decide)) (Dd284.weak (by decide)) (Dd285.weak (by decide))) e277 a260 F278 (L := #[.val (.int i0), .val (.int i1), .val (.int i2), .val (.int i3), .val (.long i4), .second, .val (.int i5), .val (.int ta), .val (.int ka), .val (.int ksa), .val (.int kca), .val (.int tb), .val (.int kb), .val (.int ksb), .val (.int kcb), .val (.int ja), .val (.int jsa), .val (.int jb), .val (.int jsb), .val (.ref a260), .unset, .unset]) (hb hby at_203) (by rw [hml]; rfl) [.double d280, .double d281, .double d282, .double d283, .double d284, .double d285] [] rfl rfl pd_2 rfl 0 (by show 2 * 0 + _ ≤ _; exact Nat.le_of_eq rfl) (by decide) (by decide) (by decide) (by decide)
  obtain ⟨rfl, N286, K286, r286_1, r286_2, r286_3, r286_4, r286_5, r286_6, r286_7, ⟨G286_1, H286_1⟩, ⟨G286_2, H286_2⟩, ⟨G286_3, H286_3⟩, ⟨G286_4, H286_4⟩, ⟨G286_5, H286_5⟩, ⟨G286_6, H286_6⟩, ⟨G286_7, H286_7⟩⟩ := hQ286
  have M286 := Fr.app M277 N286
  have F287 := F278.keep K286
  have Z288 := Nat.le_trans Z279 K286.1
  have e286 : T286.heap = T286.heap := rfl
  refine Go.via st286 ?_
  show Go p e below _ (T286.setTop (mkF m 206 #[.val (.int i0), .val (.int i1), .val (.int i2), .val (.int i3), .val (.long i4), .second, .val (.int i5), .val (.int ta), .val (.int ka), .val (.int ksa), .val (.int kca), .val (.int tb), .val (.int kb), .val (.int ksb), .val (.int kcb), .val (.int ja), .val (.int jsa), .val (.int jb), .val (.int jsb), .val (.ref a260), .unset, .unset] []))
  refine s_iload X286 hx (hb hby at_206) rfl 208 rfl ?_
  have B289 := Ib.i2l B_ta
  refine s_i2l X286 hx (hb hby at_208) ta.toInt64 rfl 209 rfl ?_
  refine s_iload X286 hx (hb hby at_209) rfl 211 rfl ?_
  have B290 := Ib.i2l B_ka
  refine s_i2l X286 hx (hb hby at_211) ka.toInt64 rfl 212 rfl ?_
  refine s_iload X286 hx (hb hby at_212) rfl 214 rfl ?_
  have B291 := Ib.i2l B_ksa
  refine s_i2l X286 hx (hb hby at_214) ksa.toInt64 rfl 215 rfl ?_
  refine s_iload X286 hx (hb hby at_215) rfl 217 rfl ?_
  have B292 := Ib.i2l B_kca
  refine s_i2l X286 hx (hb hby at_217) kca.toInt64 rfl 218 rfl ?_
  obtain ⟨v293, T293, L293, X293, hQ293, st293⟩ := callStat X286 hx hZ hown (wd hw 32 _ rfl) (wd hw 33 _ rfl) (wd hw 34 _ rfl) (wd hw 35 _ rfl) (by decide) (rm_ref l Z a0 hw [] ta.toInt64 ka.toInt64 ksa.toInt64 kca.toInt64 _ _ _ _ T286.heap n0 Z288 (B289.weak (by decide)) (B290.weak (by decide)) (B291.weak (by decide)) (B292.weak (by decide))) e286 (L := #[.val (.int i0), .val (.int i1), .val (.int i2), .val (.int i3), .val (.long i4), .second, .val (.int i5), .val (.int ta), .val (.int ka), .val (.int ksa), .val (.int kca), .val (.int tb), .val (.int kb), .val (.int ksb), .val (.int kcb), .val (.int ja), .val (.int jsa), .val (.int jb), .val (.int jsb), .val (.ref a260), .unset, .unset]) (hb hby at_218) (by rw [hml]; rfl) [.long ta.toInt64, .long ka.toInt64, .long ksa.toInt64, .long kca.toInt64] [] rfl rfl pd_3 rfl 0 (by show 2 * 0 + _ ≤ _; exact Nat.le_of_eq rfl) (by decide) (by decide) (by decide) (by decide)
  obtain ⟨r293, rfl, N293, hh293, H293⟩ := hQ293
  have M293 := Fr.app M286 N293
  refine Go.via st293 ?_
  show Go p e below _ (T293.setTop (mkF m 221 #[.val (.int i0), .val (.int i1), .val (.int i2), .val (.int i3), .val (.long i4), .second, .val (.int i5), .val (.int ta), .val (.int ka), .val (.int ksa), .val (.int kca), .val (.int tb), .val (.int kb), .val (.int ksb), .val (.int kcb), .val (.int ja), .val (.int jsa), .val (.int jb), .val (.int jsb), .val (.ref a260), .unset, .unset] [.long r293]))
  refine s_iload X293 hx (hb hby at_221) rfl 223 rfl ?_
  have B294 := Ib.i2l B_tb
  refine s_i2l X293 hx (hb hby at_223) tb.toInt64 rfl 224 rfl ?_
  refine s_iload X293 hx (hb hby at_224) rfl 226 rfl ?_
  have B295 := Ib.i2l B_kb
  refine s_i2l X293 hx (hb hby at_226) kb.toInt64 rfl 227 rfl ?_
  refine s_iload X293 hx (hb hby at_227) rfl 229 rfl ?_
  have B296 := Ib.i2l B_ksb
  refine s_i2l X293 hx (hb hby at_229) ksb.toInt64 rfl 230 rfl ?_
  refine s_iload X293 hx (hb hby at_230) rfl 232 rfl ?_
  have B297 := Ib.i2l B_kcb
  refine s_i2l X293 hx (hb hby at_232) kcb.toInt64 rfl 233 rfl ?_
  obtain ⟨v298, T298, L298, X298, hQ298, st298⟩ := callStat X293 hx hZ hown (wd hw 32 _ rfl) (wd hw 33 _ rfl) (wd hw 34 _ rfl) (wd hw 35 _ rfl) (by decide) (rm_ref l Z a0 hw [] tb.toInt64 kb.toInt64 ksb.toInt64 kcb.toInt64 _ _ _ _ T286.heap n0 Z288 (B294.weak (by decide)) (B295.weak (by decide)) (B296.weak (by decide)) (B297.weak (by decide))) hh293 (L := #[.val (.int i0), .val (.int i1), .val (.int i2), .val (.int i3), .val (.long i4), .second, .val (.int i5), .val (.int ta), .val (.int ka), .val (.int ksa), .val (.int kca), .val (.int tb), .val (.int kb), .val (.int ksb), .val (.int kcb), .val (.int ja), .val (.int jsa), .val (.int jb), .val (.int jsb), .val (.ref a260), .unset, .unset]) (hb hby at_233) (by rw [hml]; rfl) [.long tb.toInt64, .long kb.toInt64, .long ksb.toInt64, .long kcb.toInt64] [.long r293] rfl rfl pd_3 rfl 2 (by show 2 * 0 + _ ≤ _; exact Nat.le_of_eq rfl) (by decide) (by decide) (by decide) (by decide)
  obtain ⟨r298, rfl, N298, hh298, H298⟩ := hQ298
  have M298 := Fr.app M293 N298
  refine Go.via st298 ?_
  show Go p e below _ (T298.setTop (mkF m 236 #[.val (.int i0), .val (.int i1), .val (.int i2), .val (.int i3), .val (.long i4), .second, .val (.int i5), .val (.int ta), .val (.int ka), .val (.int ksa), .val (.int kca), .val (.int tb), .val (.int kb), .val (.int ksb), .val (.int kcb), .val (.int ja), .val (.int jsa), .val (.int jb), .val (.int jsb), .val (.ref a260), .unset, .unset] [.long r298, .long r293]))
  have B299 := Lb.add H293 H298 (by decide)
  refine s_ladd X298 hx (hb hby at_236) (r293 + r298) rfl 237 rfl ?_
  refine s_lstore X298 hx (hb hby at_237) #[.val (.int i0), .val (.int i1), .val (.int i2), .val (.int i3), .val (.long i4), .second, .val (.int i5), .val (.int ta), .val (.int ka), .val (.int ksa), .val (.int kca), .val (.int tb), .val (.int kb), .val (.int ksb), .val (.int kcb), .val (.int ja), .val (.int jsa), .val (.int jb), .val (.int jsb), .val (.ref a260), .val (.long (r293 + r298)), .second] rfl 239 rfl ?_
  refine s_aload X298 hx (hb hby at_239) rfl rfl 241 rfl ?_
  obtain ⟨v300, T300, L300, X300, hQ300, st300⟩ := callVirt X298 hx hZ hown (wd hw 37 _ rfl) (wd hw 38 _ rfl) (wd hw 40 _ rfl) (wd hw 39 _ rfl) (wd hw 4 _ rfl) (wd hw 41 _ rfl) (by decide) (rm_slope l Z a0 hw [] a260 r286_4 r286_5 r286_7 _ _ _ T286.heap n0 Z288 G286_4 G286_5 G286_7 (H286_4.weak (by decide)) (H286_5.weak (by decide)) (H286_7.weak (by decide))) hh298 a260 F287 (L := #[.val (.int i0), .val (.int i1), .val (.int i2), .val (.int i3), .val (.long i4), .second, .val (.int i5), .val (.int ta), .val (.int ka), .val (.int ksa), .val (.int kca), .val (.int tb), .val (.int kb), .val (.int ksb), .val (.int kcb), .val (.int ja), .val (.int jsa), .val (.int jb), .val (.int jsb), .val (.ref a260), .val (.long (r293 + r298)), .second]) (hb hby at_241) (by rw [hml]; rfl) [] [] rfl rfl pd_4 rfl 0 (by show 2 * 0 + _ ≤ _; exact Nat.le_of_eq rfl) (by decide) (by decide) (by decide) (by decide)
  obtain ⟨r300, rfl, N300, hh300, H300⟩ := hQ300
  have M300 := Fr.app M298 N300
  refine Go.via st300 ?_
  show Go p e below _ (T300.setTop (mkF m 244 #[.val (.int i0), .val (.int i1), .val (.int i2), .val (.int i3), .val (.long i4), .second, .val (.int i5), .val (.int ta), .val (.int ka), .val (.int ksa), .val (.int kca), .val (.int tb), .val (.int kb), .val (.int ksb), .val (.int kcb), .val (.int ja), .val (.int jsa), .val (.int jb), .val (.int jsb), .val (.ref a260), .val (.long (r293 + r298)), .second] [.double r300]))
  refine s_lload X300 hx (hb hby at_244) rfl 246 rfl ?_
  have Dd301 := Lb.l2d B299 (by decide)
  obtain ⟨d301, h_d301⟩ : ∃ v, (FP.l2d (r293 + r298)) = v := ⟨_, rfl⟩
  rw [h_d301] at Dd301
  refine s_l2d X300 hx (hb hby at_246) d301 h_d301 247 rfl ?_
  refine s_dcmp X300 hx (hb hby at_247) (0 : Int32) (by rw [show FP.dcmp r300 d301 = some .eq from (Db.eq H300 Dd301 (by grind))]; rfl) 248 rfl ?_
  refine s_ifN X300 hx (hb hby at_248) (by decide) 251 rfl ?_
  refine s_iconst X300 hx (hb hby at_251) (1 : Int32) rfl 252 rfl ?_
  refine s_goto X300 hx (hb hby at_252) 256 (by decide) (by decide) ?_
  exact retZ X300 hx hlk hret (hb hby at_256) (by decide) hh300 ⟨rfl, M300⟩ (by decide) (by decide)
set_option maxRecDepth 65536 in
set_option maxHeartbeats 40000000 in
theorem comes_1 {Post : Tables → Env → Array Value → State → Outcome → State → Prop} (hpost : ∀ tb e args s v u, (limb_1_1.after args s (.returned v) u = true ∧ limb_1_2.after args s (.returned v) u = true ∧ True) → FrameEnd s (.returned v) u (Jvm.fieldLocs frame_1_writes args s ++ Jvm.arrayLocs frame_1_arrays args s ++ Jvm.staticLocs frame_1_statics s) 16 128 → Post tb e args s (.returned v) u) :
    ArmFor flags0 classFile x code maxLocals ret World_1 tables_1 room_1 Calls_1 rest_1 Pre_1 Post := by
  intro l hfl _ _ p e ha hc hk s m args below hf hA hF happ hP
  obtain ⟨hcalls, hrest, hpre⟩ := hP
  obtain ⟨-, -, -, hnamed, -, -, -, hat⟩ := (Spec.applies_iff hf).mp happ
  obtain ⟨hg, hn⟩ := and_e (Cond.before_iff.mp (show (Jvm.Cond.and given_1 narrow_1).before args s = true from hpre))
  obtain ⟨hg0, hg1⟩ := and_e hg
  obtain ⟨w0, w1, w2, w3, w4, w5, rfl⟩ : ∃ w0 w1 w2 w3 w4 w5 : Value, args = #[w0, w1, w2, w3, w4, w5] := by
    have hs : args.size = 6 := by simpa [Cond.value, given_1] using hg0
    obtain ⟨L⟩ := args
    match L, hs with
    | [w0, w1, w2, w3, w4, w5], _ => exact ⟨w0, w1, w2, w3, w4, w5, rfl⟩
  have hw := fun d (hd : d ∈ tables_1) => atoms_spec (ws := Jvm.Cond.code x code maxLocals ret :: tables_1) hat d (List.mem_cons_of_mem _ hd)
  obtain ⟨ga0, hg2⟩ := and_e hg1
  obtain ⟨ga1, hg3⟩ := and_e hg2
  obtain ⟨ga2, hg4⟩ := and_e hg3
  obtain ⟨ga3, hg5⟩ := and_e hg4
  obtain ⟨ga4, hg6⟩ := and_e hg5
  have ga5 := hg6
  obtain ⟨i0, ei0⟩ := is_v ga0
  obtain rfl : w0 = .int i0 := Option.some.inj ei0
  obtain ⟨i1, ei1⟩ := is_v ga1
  obtain rfl : w1 = .int i1 := Option.some.inj ei1
  obtain ⟨i2, ei2⟩ := is_v ga2
  obtain rfl : w2 = .int i2 := Option.some.inj ei2
  obtain ⟨i3, ei3⟩ := is_v ga3
  obtain rfl : w3 = .int i3 := Option.some.inj ei3
  obtain ⟨i4, ei4⟩ := isL_v ga4
  obtain rfl : w4 = .long i4 := Option.some.inj ei4
  obtain ⟨i5, ei5⟩ := is_v ga5
  obtain rfl : w5 = .int i5 := Option.some.inj ei5
  obtain ⟨n, o, h1, h2, h3, _, L, rfl, ⟨rfl, N⟩, hq⟩ := rm_law l s _ hw tables_1 i0 i1 i2 i3 i4 i5 s.heap s.heap.size (Nat.le_refl _) p e ha hc hk s m _ below hf ((Spec.applies_iff_loose hf).mp happ).1 ⟨rfl, State.Warmed39.refl s, rfl⟩ trivial
  refine ⟨n, _, h1, h2, h3, hpost _ _ _ _ _ _ ⟨Cond.after_iff.mpr rfl, Cond.after_iff.mpr (eq_i res_at (Term.int_eval (1)) rfl), trivial⟩ ⟨hq.1, hq.2.1, (hq.2.2.sift fun y hy => Or.inr (N y hy)).mono (by decide) (by decide)⟩⟩
theorem main_1_1 : Claimed_1_1 := comes_1 fun _ _ _ _ _ _ h hF => ⟨h.1, hF⟩
theorem main_1_2 : Claimed_1_2 := comes_1 fun _ _ _ _ _ _ h hF => ⟨h.2.1, hF⟩
end Jvm.Pilot.@@N@@
namespace Jvm.Pilot.@@N@@
open Jvm Jvm.ClassFile Sem Op Lib Jvm.Free Jvm.Stand Jvm.Pilot.@@N@@.Jvm.D
/-! MADE BY PROGRAM (witnessworld.py) out of the Statement's table words and the real class files: 9 classes; the members and pool entries that the words name. The judged class is class 1, her method 2. -/
namespace start1
open Jvm.ClassFile
def u (s : String) : CpInfo := .utf8 (stringToUtf16 s)
/-- a pool by its gaps: so many unusable entries, then the entry; so many at the end -/
def gap : Nat → List CpInfo → List CpInfo
  | 0, r => r
  | n + 1, r => .unusable :: gap n r
def poolList (es : List (Nat × CpInfo)) (last : Nat) : List CpInfo := es.foldr (fun e r => gap e.1 (e.2 :: r)) (gap last [])
def pool (es : List (Nat × CpInfo)) (last : Nat) : Array CpInfo := ⟨poolList es last⟩
def fileOf (pool : Array CpInfo) (this : Nat) (attrs : Array Attribute := #[]) (ms : Array MethodInfo := #[]) (fl : Nat := 33) (sup : Nat := 0) (ifs : Array Nat := #[]) (fds : Array FieldInfo := #[]) : ClassFile where
  minorVersion := 0
  majorVersion := 65
  constantPool := pool
  accessFlags := fl
  thisClass := this
  superClass := sup
  interfaces := ifs
  fields := fds
  methods := ms
  attributes := attrs
def plain (name : String) (sup : Option ClassId) : Class where
  name := name
  kind := .ordinary
  loader := none
  accessFlags := 33
  super := sup
  interfaces := #[]
  cf := none
  fields := #[]
  methods := #[]
  instanceTypes := #[]
  staticTypes := #[]
  resolved := #[]
  callSites := []
  init := .initialized
  statics := none
  mirror := none

def pool0 : Array CpInfo := pool [(5, u "<init>"), (0, u "()V"), (1, .class_ 10), (1, u "java/lang/Object")] 113

def k0c0 : Code := { maxStack := 0, maxLocals := 1, code := object_method_1_code, exceptionTable := #[], attributes := #[] }
def k0m0 : Method := { name := "<init>", desc := "()V", sig := { parameters := [], returnType := none }, accessFlags := 1, code := some k0c0 }
/-- java/lang/Object -/
def k0 : Class := { plain "java/lang/Object" none with
  accessFlags := 33
  interfaces := #[]
  cf := some (fileOf pool0 8 #[] #[{ accessFlags := 1, nameIndex := 5, descriptorIndex := 6, attributes := #[] }] 33 0 #[] #[])
  fields := #[]
  methods := #[k0m0]
  instanceTypes := #[]
  staticTypes := #[]
  resolved := Array.replicate 124 none
  statics := none }

def pool1 : Array CpInfo := pool [(2, .class_ 4), (0, .nameAndType 5 6), (0, u "java/lang/Object"), (0, u "<init>"), (0, u "()V"), (0, .long 3), (1, .long 2047), (1, .long 127), (1, .class_ 14), (0, u "com/example/entalpi/entalpi/fluids/Derivatives"), (0, .methodref 13 3), (0, .methodref 13 17), (0, .nameAndType 18 19), (0, u "addSeparable"), (0, u "(DDDDDD)V"), (0, .methodref 21 22), (0, .class_ 23), (0, .nameAndType 24 25), (0, u "com/example/entalpi/entalpi/fluids/DerivativesStiffnessSlopePinLaw"), (0, u "ref"), (0, u "(JJJJ)J"), (0, .methodref 13 27), (0, .nameAndType 28 29), (0, u "stiffnessSlope"), (0, u "()D"), (2, u "law"), (0, u "(IIIIJI)Z")] 3

def k1m0 : Method := { name := "<init>", desc := "()V", sig := { parameters := [], returnType := none }, accessFlags := 1, code := none }
def k1c1 : Code := { maxStack := 8, maxLocals := 8, code := method_2_code, exceptionTable := #[], attributes := #[] }
def k1m1 : Method := { name := "ref", desc := "(JJJJ)J", sig := { parameters := [.long, .long, .long, .long], returnType := some .long }, accessFlags := 10, code := some k1c1 }
def k1c2 : Code := { maxStack := 13, maxLocals := 22, code := code, exceptionTable := #[], attributes := #[] }
def k1m2 : Method := { name := "law", desc := "(IIIIJI)Z", sig := { parameters := [.int, .int, .int, .int, .long, .int], returnType := some .boolean }, accessFlags := 9, code := some k1c2 }
/-- com/example/entalpi/entalpi/fluids/DerivativesStiffnessSlopePinLaw -/
def k1 : Class := { plain "com/example/entalpi/entalpi/fluids/DerivativesStiffnessSlopePinLaw" (some 0) with
  accessFlags := 49
  interfaces := #[]
  cf := some (fileOf pool1 21 #[] #[{ accessFlags := 1, nameIndex := 5, descriptorIndex := 6, attributes := #[] }, { accessFlags := 10, nameIndex := 24, descriptorIndex := 25, attributes := #[] }, { accessFlags := 9, nameIndex := 32, descriptorIndex := 33, attributes := #[] }] 49 2 #[] #[])
  fields := #[]
  methods := #[k1m0, k1m1, k1m2]
  instanceTypes := #[]
  staticTypes := #[]
  resolved := Array.replicate 37 none
  statics := none }

def pool2 : Array CpInfo := pool [(1, .methodref 2 3), (0, .class_ 4), (0, .nameAndType 5 6), (0, u "java/lang/Object"), (0, u "<init>"), (0, u "()V"), (0, .fieldref 8 9), (0, .class_ 10), (0, .nameAndType 11 12), (0, u "com/example/entalpi/entalpi/fluids/Derivatives"), (0, u "alpha"), (0, u "D"), (0, .fieldref 8 14), (0, .nameAndType 15 12), (0, u "tauAlphaTau"), (0, .fieldref 8 17), (0, .nameAndType 18 12), (0, u "tauTauAlphaTauTau"), (0, .fieldref 8 20), (0, .nameAndType 21 12), (0, u "deltaResidualDelta"), (0, .fieldref 8 23), (0, .nameAndType 24 12), (0, u "deltaDeltaResidualDeltaDelta"), (0, .fieldref 8 26), (0, .nameAndType 27 12), (0, u "deltaTauResidualDeltaTau"), (0, .fieldref 8 29), (0, .nameAndType 30 12), (0, u "deltaDeltaDeltaResidualDeltaDeltaDelta"), (0, .double 4611686018427387904), (1, .double 4613937818241073152), (1, .double 4616189618054758400), (4, u "()D"), (5, u "addSeparable"), (0, u "(DDDDDD)V"), (1, u "stiffnessSlope")] 3

def k2c0 : Code := { maxStack := 1, maxLocals := 1, code := prog_7_method_1_code, exceptionTable := #[], attributes := #[] }
def k2m0 : Method := { name := "<init>", desc := "()V", sig := { parameters := [], returnType := none }, accessFlags := 0, code := some k2c0 }
def k2c1 : Code := { maxStack := 11, maxLocals := 13, code := prog_7_method_2_code, exceptionTable := #[], attributes := #[] }
def k2m1 : Method := { name := "addSeparable", desc := "(DDDDDD)V", sig := { parameters := [.double, .double, .double, .double, .double, .double], returnType := none }, accessFlags := 0, code := some k2c1 }
def k2c2 : Code := { maxStack := 6, maxLocals := 1, code := prog_7_method_5_code, exceptionTable := #[], attributes := #[] }
def k2m2 : Method := { name := "stiffnessSlope", desc := "()D", sig := { parameters := [], returnType := some .double }, accessFlags := 0, code := some k2c2 }
/-- com/example/entalpi/entalpi/fluids/Derivatives -/
def k2 : Class := { plain "com/example/entalpi/entalpi/fluids/Derivatives" (some 0) with
  accessFlags := 48
  interfaces := #[]
  cf := some (fileOf pool2 8 #[] #[{ accessFlags := 0, nameIndex := 5, descriptorIndex := 6, attributes := #[] }, { accessFlags := 0, nameIndex := 46, descriptorIndex := 47, attributes := #[] }, { accessFlags := 0, nameIndex := 49, descriptorIndex := 40, attributes := #[] }] 48 2 #[] #[{ accessFlags := 0, nameIndex := 11, descriptorIndex := 12, attributes := #[] }, { accessFlags := 0, nameIndex := 15, descriptorIndex := 12, attributes := #[] }, { accessFlags := 0, nameIndex := 18, descriptorIndex := 12, attributes := #[] }, { accessFlags := 0, nameIndex := 21, descriptorIndex := 12, attributes := #[] }, { accessFlags := 0, nameIndex := 24, descriptorIndex := 12, attributes := #[] }, { accessFlags := 0, nameIndex := 27, descriptorIndex := 12, attributes := #[] }, { accessFlags := 0, nameIndex := 30, descriptorIndex := 12, attributes := #[] }])
  fields := #[{ name := "alpha", type := .double, accessFlags := 0, slot := 0, constantValue := 0 }, { name := "tauAlphaTau", type := .double, accessFlags := 0, slot := 1, constantValue := 0 }, { name := "tauTauAlphaTauTau", type := .double, accessFlags := 0, slot := 2, constantValue := 0 }, { name := "deltaResidualDelta", type := .double, accessFlags := 0, slot := 3, constantValue := 0 }, { name := "deltaDeltaResidualDeltaDelta", type := .double, accessFlags := 0, slot := 4, constantValue := 0 }, { name := "deltaTauResidualDeltaTau", type := .double, accessFlags := 0, slot := 5, constantValue := 0 }, { name := "deltaDeltaDeltaResidualDeltaDeltaDelta", type := .double, accessFlags := 0, slot := 6, constantValue := 0 }]
  methods := #[k2m0, k2m1, k2m2]
  instanceTypes := #[.double, .double, .double, .double, .double, .double, .double]
  staticTypes := #[]
  resolved := Array.replicate 53 none
  statics := none }

def pool3 : Array CpInfo := pool [(1, u "java/lang/Cloneable"), (0, .class_ 1), (0, u "java/lang/Object"), (0, .class_ 3)] 3

/-- java/lang/Cloneable -/
def k3 : Class := { plain "java/lang/Cloneable" (some 0) with
  accessFlags := 1537
  interfaces := #[]
  cf := some (fileOf pool3 2 #[] #[] 1537 4 #[] #[])
  fields := #[]
  methods := #[]
  instanceTypes := #[]
  staticTypes := #[]
  resolved := Array.replicate 8 none
  statics := none }

def pool4 : Array CpInfo := pool [(1, u "java/io/Serializable"), (0, .class_ 1), (0, u "java/lang/Object"), (0, .class_ 3)] 3

/-- java/io/Serializable -/
def k4 : Class := { plain "java/io/Serializable" (some 0) with
  accessFlags := 1537
  interfaces := #[]
  cf := some (fileOf pool4 2 #[] #[] 1537 4 #[] #[])
  fields := #[]
  methods := #[]
  instanceTypes := #[]
  staticTypes := #[]
  resolved := Array.replicate 8 none
  statics := none }

/-- the primitive byte -/
def k5 : Class := { plain "byte" none with kind := .primitive 'B', accessFlags := 0x411 }
/-- [B -/
def k6 : Class := { plain "[B" (some 0) with kind := .array 5 .byte, interfaces := #[3, 4], accessFlags := 1041 }

/-- the primitive int -/
def k7 : Class := { plain "int" none with kind := .primitive 'I', accessFlags := 0x411 }
/-- [I -/
def k8 : Class := { plain "[I" (some 0) with kind := .array 7 .int, interfaces := #[3, 4], accessFlags := 1041 }

def heap : Heap := #[]
def classes : Array Class := #[k0, k1, k2, k3, k4, k5, k6, k7, k8]
def interned : List (Array UInt16 × Addr) := []
def slotsUsed : Nat := 0
def theMethod : MethodId := ⟨1, 2⟩
def args0 : Array Value := #[.int 3, .int 2, .int 5, .int 1, .long 2, .int 4]
def aboutOver (below : List Frame) : State where
  vm := { classes := classes, interned := interned.toArray }
  heap := heap
  slotsUsed := slotsUsed
  threads := #[{ frames := .invoking theMethod args0 :: below }]
def below0 : List Frame := [.native { method := ⟨0, 0⟩, args := #[] }]
def about1 : State := aboutOver below0
def p0 : Program := .bare "" "" ""
def e0 : Env := launch0.env 0 0 0
theorem w_frames : about1.frames = Frame.invoking theMethod args0 :: below0 := rfl
set_option maxRecDepth 65536 in
theorem w_args : argsFit about1.vm theMethod args0 = true := by decide +kernel
set_option maxRecDepth 65536 in
theorem w_heap : heapFits about1 = true := by decide +kernel
set_option maxRecDepth 65536 in
theorem w_runnable : about1.curStatus? = some .runnable := by decide +kernel
set_option maxRecDepth 65536 in
theorem w_alone : about1.alone = true := by decide +kernel
set_option maxRecDepth 65536 in
theorem w_named : about1.methodNamed? x = some theMethod := by decide +kernel
set_option maxRecDepth 65536 in
theorem w_hears : about1.hears theMethod below0 = true := by decide +kernel
set_option maxRecDepth 65536 in
theorem w_ripe : about1.ripe theMethod args0 below0 = true := by decide +kernel
theorem w_running : about1.status = .running := rfl
set_option maxRecDepth 65536 in
theorem w_room : about1.hasRoom e0.platform room_1 = true :=
  launch0.hasRoom_least _ room_1 (by decide +kernel) (by decide +kernel) (by decide +kernel) (by decide +kernel) (by decide +kernel) (by decide +kernel)
theorem allAtoms_all (ts : List Jvm.Cond) (a : Array Jvm.Value) (st : Jvm.State) : (allAtoms ts).before a st = ts.all (fun c => c.before a st) := by
  induction ts with
  | nil => rfl
  | cons c t ih =>
    show (Jvm.Cond.and c (allAtoms t)).before a st = _
    rw [Jvm.Cond.before_and, ih, List.all_cons]
def words1 : List Jvm.Cond := Jvm.Cond.code x code maxLocals ret :: tables_1
/-- a 'code' word, met by the world's own term for the bytes: nothing is compared byte by byte -/
theorem code_word {y : MethodName} {bytes : ByteArray} {mx : Nat} {rt : Option FieldType} {a : Array Value} {s : State} {m : MethodId} {meth : Method} {c : Code} (h1 : s.methodNamed? y = some m) (h2 : s.vm.method? m = some meth) (h3 : meth.code = some c) (h4 : c.code = bytes)
    (h5 : (c.maxLocals == mx && c.exceptionTable.isEmpty && decide (c.maxStack ≤ mostOperands) && decide (meth.sig.returnType = rt) && !meth.locks && decide (parseMethodDescriptor y.desc = some meth.sig)) = true) : (Jvm.Cond.code y bytes mx rt).before a s = true := by
  simp only [Bool.and_eq_true, beq_iff_eq, Bool.not_eq_true', decide_eq_true_eq] at h5
  obtain ⟨⟨⟨⟨⟨g1, g2⟩, g3⟩, g4⟩, g5⟩, g6⟩ := h5
  simp [Cond.before, Cond.holds, Cond.value, h1, h2, h3, h4, g1, g2, g3, g4, g5, g6]
def isCode : Jvm.Cond → Bool
  | .code _ _ _ _ => true
  | _ => false
theorem all_split {L : List Jvm.Cond} {P : Jvm.Cond → Bool} (h1 : L.all (fun c => isCode c || P c) = true) (h2 : ∀ c ∈ L.filter isCode, P c = true) : L.all P = true := by
  refine List.all_eq_true.mpr fun c hc => ?_
  have h := List.all_eq_true.mp h1 c hc
  rcases Bool.eq_false_or_eq_true (isCode c) with hi | hi
  · exact h2 c (List.mem_filter.mpr ⟨hc, hi⟩)
  · simpa [hi] using h
set_option maxRecDepth 65536 in
theorem w_c0 : (Jvm.Cond.code x code maxLocals ret).before args0 about1 = true := code_word (m := ⟨1, 2⟩) (meth := k1m2) (c := k1c2) (by decide +kernel) rfl rfl rfl (by decide +kernel)
set_option maxRecDepth 65536 in
theorem w_c1 : (Jvm.Cond.code ({ cls := "com/example/entalpi/entalpi/fluids/Derivatives", name := "<init>", desc := "()V" } : Jvm.MethodName) prog_7_method_1_code (1 : Nat) (Option.none : Option Jvm.ClassFile.FieldType)).before args0 about1 = true := code_word (m := ⟨2, 0⟩) (meth := k2m0) (c := k2c0) (by decide +kernel) rfl rfl rfl (by decide +kernel)
set_option maxRecDepth 65536 in
theorem w_c2 : (Jvm.Cond.code ({ cls := "java/lang/Object", name := "<init>", desc := "()V" } : Jvm.MethodName) object_method_1_code (1 : Nat) (Option.none : Option Jvm.ClassFile.FieldType)).before args0 about1 = true := code_word (m := ⟨0, 0⟩) (meth := k0m0) (c := k0c0) (by decide +kernel) rfl rfl rfl (by decide +kernel)
set_option maxRecDepth 65536 in
theorem w_c3 : (Jvm.Cond.code ({ cls := "com/example/entalpi/entalpi/fluids/Derivatives", name := "addSeparable", desc := "(DDDDDD)V" } : Jvm.MethodName) prog_7_method_2_code (13 : Nat) (Option.none : Option Jvm.ClassFile.FieldType)).before args0 about1 = true := code_word (m := ⟨2, 1⟩) (meth := k2m1) (c := k2c1) (by decide +kernel) rfl rfl rfl (by decide +kernel)
set_option maxRecDepth 65536 in
theorem w_c4 : (Jvm.Cond.code ({ cls := "com/example/entalpi/entalpi/fluids/DerivativesStiffnessSlopePinLaw", name := "ref", desc := "(JJJJ)J" } : Jvm.MethodName) method_2_code (8 : Nat) (Option.some Jvm.ClassFile.FieldType.long)).before args0 about1 = true := code_word (m := ⟨1, 1⟩) (meth := k1m1) (c := k1c1) (by decide +kernel) rfl rfl rfl (by decide +kernel)
set_option maxRecDepth 65536 in
theorem w_c5 : (Jvm.Cond.code ({ cls := "com/example/entalpi/entalpi/fluids/Derivatives", name := "stiffnessSlope", desc := "()D" } : Jvm.MethodName) prog_7_method_5_code (1 : Nat) (Option.some Jvm.ClassFile.FieldType.double)).before args0 about1 = true := code_word (m := ⟨2, 2⟩) (meth := k2m2) (c := k2c2) (by decide +kernel) rfl rfl rfl (by decide +kernel)
def codes1 : List Jvm.Cond := [Jvm.Cond.code x code maxLocals ret, Jvm.Cond.code ({ cls := "com/example/entalpi/entalpi/fluids/Derivatives", name := "<init>", desc := "()V" } : Jvm.MethodName) prog_7_method_1_code (1 : Nat) (Option.none : Option Jvm.ClassFile.FieldType), Jvm.Cond.code ({ cls := "java/lang/Object", name := "<init>", desc := "()V" } : Jvm.MethodName) object_method_1_code (1 : Nat) (Option.none : Option Jvm.ClassFile.FieldType), Jvm.Cond.code ({ cls := "com/example/entalpi/entalpi/fluids/Derivatives", name := "addSeparable", desc := "(DDDDDD)V" } : Jvm.MethodName) prog_7_method_2_code (13 : Nat) (Option.none : Option Jvm.ClassFile.FieldType), Jvm.Cond.code ({ cls := "com/example/entalpi/entalpi/fluids/DerivativesStiffnessSlopePinLaw", name := "ref", desc := "(JJJJ)J" } : Jvm.MethodName) method_2_code (8 : Nat) (Option.some Jvm.ClassFile.FieldType.long), Jvm.Cond.code ({ cls := "com/example/entalpi/entalpi/fluids/Derivatives", name := "stiffnessSlope", desc := "()D" } : Jvm.MethodName) prog_7_method_5_code (1 : Nat) (Option.some Jvm.ClassFile.FieldType.double)]
set_option maxRecDepth 65536 in
theorem codes_eq : words1.filter isCode = codes1 := rfl
theorem w_codes : ∀ c ∈ words1.filter isCode, c.before args0 about1 = true := by
  rw [codes_eq]
  intro c hc
  simp only [codes1, List.mem_cons, List.not_mem_nil, or_false] at hc
  rcases hc with rfl | rfl | rfl | rfl | rfl | rfl
  · exact w_c0
  · exact w_c1
  · exact w_c2
  · exact w_c3
  · exact w_c4
  · exact w_c5
set_option maxRecDepth 65536 in
theorem w_t1 : (words1.take 24).all (fun c => isCode c || c.before args0 about1) = true := by decide +kernel
set_option maxRecDepth 65536 in
theorem w_t2 : (words1.drop 24).all (fun c => isCode c || c.before args0 about1) = true := by decide +kernel
theorem w_tables : (allAtoms (Jvm.Cond.code x code maxLocals ret :: tables_1)).before args0 about1 = true := by
  rw [allAtoms_all]
  show words1.all (fun c => c.before args0 about1) = true
  refine all_split ?_ w_codes
  rw [← List.take_append_drop 24 words1, List.all_append, w_t1, w_t2]
  rfl
set_option maxRecDepth 65536 in
theorem w_case : (Jvm.Cond.and given_1 narrow_1).before args0 about1 = true := by decide +kernel
theorem w_applies : (headSpec (Jvm.Cond.code x code maxLocals ret :: tables_1) room_1).applies x e0.platform about1 = true :=
  (Spec.applies_iff w_frames).mpr ⟨w_running, w_runnable, w_alone, w_named, w_hears, w_ripe, w_room, w_tables⟩
theorem atStart : AtStart classFile x code maxLocals ret World_1 tables_1 room_1 Calls_1 rest_1 Pre_1 launch0 p0 e0 about1 theMethod args0 below0 :=
  ⟨lists_1, trivial, launch0.admits_env _ _ _, launch0.least_env, fairChoices_fair.cas, fairChoices_fair.clock, w_frames, w_args, w_heap, w_applies, trivial, trivial, w_case⟩
end start1
theorem witness_1 : WitnessClaimed_1 := ⟨start1.p0, start1.e0, start1.about1, start1.theMethod, start1.args0, start1.below0, start1.atStart⟩
end Jvm.Pilot.@@N@@

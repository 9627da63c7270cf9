import JvmDerived
import JvmDerived.Pilot.@@N@@Statement
import JvmDerived.Pilot.@@N@@Code
set_option linter.unusedVariables false
set_option linter.unusedSimpArgs false
namespace Jvm.OwnGo
open Sem ClassFile Op Lib Jvm.Stand Jvm.Free Jvm.LawKit Jvm.RoadKit Jvm.Free.Fl
/-- from S the run comes to an end of which P speaks -/
def Go (p : Program) (e : Env) (below : List Frame) (P : Outcome → State → Prop) (S : State) : Prop := ∃ s₂ o, Steps p.tables e below S s₂ ∧ s₂.status = .running ∧ Ended s₂ below o ∧ P o s₂
/-- what a body's end says -/
def EndsAt (s : State) (Q : Option Value → Heap → List Loc → Prop) (rm : Room) : Outcome → State → Prop := fun o U' => ∃ v L, o = .returned v ∧ Q v U'.heap L ∧ FrameEnd s o U' L rm.cells rm.slots
/-- a body's contract -/
def Ct (l : Launch) (Z : State) (y : MethodName) (bytes : ByteArray) (ml : Nat) (ret : Option FieldType) (ws : List Jvm.Cond) (rm : Room) (as : Array Value) (h0 : Heap) (Q : Option Value → Heap → List Loc → Prop) : Prop :=
  MetFree l y (head1 (Jvm.Cond.code y bytes ml ret :: ws) rm) (fun a U => a = as ∧ Z.Warmed39 U.vm ∧ U.heap = h0) (fun _ _ _ _ _ => True) (fun _ U o U' => EndsAt U Q rm o U')
section Steps1
variable {p : Program} {l : Launch} {e : Env} {R : Room} {s : State} {m : MethodId} {args : Array Value} {below : List Frame} {meth : Method} {c : Code} {T : State} {locs : List Loc} {cells slots : Nat} {P : Outcome → State → Prop} {pc : Nat} {L L' : Array Slot} {st : List Value} {Z : State} {h h' : Heap} {a0 : Array Value} {rm : Room} {Q : Option Value → Heap → List Loc → Prop}
theorem Go.via {S S' : State} (k : ∀ t, Steps p.tables e below S' t → Steps p.tables e below S t) (g : Go p e below P S') : Go p e below P S := by
  obtain ⟨s2, o, h1, h2⟩ := g; exact ⟨s2, o, k _ h1, h2⟩
theorem Go.tr {S S' : State} (k : Steps p.tables e below S S') (g : Go p e below P S') : Go p e below P S := by
  obtain ⟨s2, o, h1, h2⟩ := g; exact ⟨s2, o, k.trans h1, h2⟩
theorem Ct.intro {y : MethodName} {bytes : ByteArray} {ml : Nat} {ret : Option FieldType} {ws : List Jvm.Cond} {as : Array Value} {h0 : Heap} (hpn : plainFor y = true) (L0 : Array Slot) (hef : ∀ m, entryFrame m as ml = mkF m 0 L0 [])
    (k : ∀ (p : Program) (e : Env) (s : State) (m : MethodId) (below : List Frame) (meth : Method) (c : Code) (T : State), Stand p l e rm s m as below meth c T [] 0 0 → p.tables.exec = Jvm.exec → Z.Warmed39 s.vm → c.code = bytes → c.maxLocals = ml → s.vm.findClass y.cls = some m.cls → meth.name = y.name → meth.sig.returnType = ret → meth.locks = false → T.heap = h0 → Go p e below (EndsAt s Q rm) (T.setTop (mkF m 0 L0 []))) :
    Ct l Z y bytes ml ret ws rm as h0 Q := by
  refine MetFree.of_bodySF hpn hisR ?_
  intro p e s m args below meth c s₁ Bd hml0 hP hK
  obtain ⟨rfl, hZ, hh⟩ := hP
  obtain ⟨s2, o, h1, h2, h3, h4⟩ := k p e s m below meth c s₁ (Stand.of_body Bd) Bd.exec hZ Bd.bytes hml0 (findClass_of_methodNamed Bd.named) (name_of_methodNamed Bd.named Bd.method).1 Bd.returns (BodyLoose.notSynchronized Bd) (by rw [← hh, Bd.state]; rfl)
  exact ⟨s2, o, castTop (hef m) h1, h2, h3, h4⟩
theorem retW (X : Stand p l e R s m args below meth c T locs cells slots) (hx : p.tables.exec = Jvm.exec) (hlk : meth.locks = false) {w : Value} {t : FieldType} {i : Instr} {rest : List Value} (hret : meth.sig.returnType = some t) (hn : narrow t w = w)
    (hi : (i = .ireturn ∧ (t = .int ∨ t = .boolean ∨ t = .byte ∨ t = .char ∨ t = .short) ∧ ∃ z, w = .int z) ∨ (i = .lreturn ∧ t = .long ∧ ∃ z, w = .long z) ∨ (i = .dreturn ∧ t = .double ∧ ∃ z, w = .double z) ∨ (i = .freturn ∧ t = .float ∧ ∃ z, w = .float z) ∨ (i = .areturn ∧ t.isReference = true ∧ w.isRef = true))
    (hd : decode c.code pc = .ok (i, 1)) (eT : T.heap = h) (hq : Q (some w) h locs) (hc : cells ≤ rm.cells) (hs : slots ≤ rm.slots) : Go p e below (EndsAt s Q rm) (T.setTop (mkF m pc L (w :: rest))) := by
  obtain ⟨fs, hr, hrun, hended, hW, hsame⟩ := X.leave (v := some w) (fun q => by rw [hret] at q; cases q) hlk
  refine ⟨_, _, retOut X hx hret hn hi hd hr, hrun, hended, _, _, rfl, ?_, ⟨_, rfl⟩, hW, hsame.mono hc hs⟩
  show Q (some w) T.heap locs
  rw [eT]; exact hq
theorem retI (X : Stand p l e R s m args below meth c T locs cells slots) (hx : p.tables.exec = Jvm.exec) (hlk : meth.locks = false) {z : Int32} {rest : List Value} (hret : meth.sig.returnType = some .int) (hd : decode c.code pc = .ok (.ireturn, 1)) (eT : T.heap = h) (hq : Q (some (.int z)) h locs) (hc : cells ≤ rm.cells) (hs : slots ≤ rm.slots) : Go p e below (EndsAt s Q rm) (T.setTop (mkF m pc L (.int z :: rest))) :=
  retW X hx hlk hret rfl (Or.inl ⟨rfl, Or.inl rfl, z, rfl⟩) hd eT hq hc hs
theorem retZ (X : Stand p l e R s m args below meth c T locs cells slots) (hx : p.tables.exec = Jvm.exec) (hlk : meth.locks = false) {z : Int32} {rest : List Value} (hret : meth.sig.returnType = some .boolean) (hd : decode c.code pc = .ok (.ireturn, 1)) (hn : narrow .boolean (.int z) = .int z) (eT : T.heap = h) (hq : Q (some (.int z)) h locs) (hc : cells ≤ rm.cells) (hs : slots ≤ rm.slots) : Go p e below (EndsAt s Q rm) (T.setTop (mkF m pc L (.int z :: rest))) :=
  retW X hx hlk hret hn (Or.inl ⟨rfl, Or.inr (Or.inl rfl), z, rfl⟩) hd eT hq hc hs
theorem retJ (X : Stand p l e R s m args below meth c T locs cells slots) (hx : p.tables.exec = Jvm.exec) (hlk : meth.locks = false) {z : Int64} {rest : List Value} (hret : meth.sig.returnType = some .long) (hd : decode c.code pc = .ok (.lreturn, 1)) (eT : T.heap = h) (hq : Q (some (.long z)) h locs) (hc : cells ≤ rm.cells) (hs : slots ≤ rm.slots) : Go p e below (EndsAt s Q rm) (T.setTop (mkF m pc L (.long z :: rest))) :=
  retW X hx hlk hret rfl (Or.inr (Or.inl ⟨rfl, rfl, z, rfl⟩)) hd eT hq hc hs
theorem retD (X : Stand p l e R s m args below meth c T locs cells slots) (hx : p.tables.exec = Jvm.exec) (hlk : meth.locks = false) {z : UInt64} {rest : List Value} (hret : meth.sig.returnType = some .double) (hd : decode c.code pc = .ok (.dreturn, 1)) (eT : T.heap = h) (hq : Q (some (.double z)) h locs) (hc : cells ≤ rm.cells) (hs : slots ≤ rm.slots) : Go p e below (EndsAt s Q rm) (T.setTop (mkF m pc L (.double z :: rest))) :=
  retW X hx hlk hret rfl (Or.inr (Or.inr (Or.inl ⟨rfl, rfl, z, rfl⟩))) hd eT hq hc hs
theorem retA (X : Stand p l e R s m args below meth c T locs cells slots) (hx : p.tables.exec = Jvm.exec) (hlk : meth.locks = false) {t : FieldType} {z : Addr} {rest : List Value} (hret : meth.sig.returnType = some t) (ht : t.isReference = true) (hn : narrow t (.ref z) = .ref z) (hd : decode c.code pc = .ok (.areturn, 1)) (eT : T.heap = h) (hq : Q (some (.ref z)) h locs) (hc : cells ≤ rm.cells) (hs : slots ≤ rm.slots) : Go p e below (EndsAt s Q rm) (T.setTop (mkF m pc L (.ref z :: rest))) :=
  retW X hx hlk hret hn (Or.inr (Or.inr (Or.inr (Or.inr ⟨rfl, ht, rfl⟩)))) hd eT hq hc hs
theorem retV (X : Stand p l e R s m args below meth c T locs cells slots) (hx : p.tables.exec = Jvm.exec) (hlk : meth.locks = false) (hret : meth.sig.returnType = none) (hd : decode c.code pc = .ok (.return_, 1)) (eT : T.heap = h) (hq : Q none h locs) (hc : cells ≤ rm.cells) (hs : slots ≤ rm.slots) : Go p e below (EndsAt s Q rm) (T.setTop (mkF m pc L [])) := by
  obtain ⟨fs, hr, hrun, hended, hW, hsame⟩ := X.leave (v := none) (fun _ => rfl) hlk
  refine ⟨_, _, X.returnOut hx hret hd hr, hrun, hended, _, _, rfl, ?_, ⟨_, rfl⟩, hW, hsame.mono hc hs⟩
  show Q none T.heap locs
  rw [eT]; exact hq
theorem s_iload (X : Stand p l e R s m args below meth c T locs cells slots) (hx : p.tables.exec = Jvm.exec) {k : Nat} {v : Int32} (hd : decode c.code pc = .ok (.iload k, 2)) (hl : L[k]? = some (.val (.int v))) (pc' : Nat) (hp : pc + 2 = pc') (g : Go p e below P (T.setTop (mkF m pc' L (.int v :: st)))) : Go p e below P (T.setTop (mkF m pc L (st))) := by
  subst hp; exact Go.via (fun _ k => XS.iload X.here hx rfl hd hl k) g
theorem s_iloadN (X : Stand p l e R s m args below meth c T locs cells slots) (hx : p.tables.exec = Jvm.exec) {k : Fin 4} {v : Int32} (hd : decode c.code pc = .ok (.iload_n k, 1)) (hl : L[k.val]? = some (.val (.int v))) (pc' : Nat) (hp : pc + 1 = pc') (g : Go p e below P (T.setTop (mkF m pc' L (.int v :: st)))) : Go p e below P (T.setTop (mkF m pc L (st))) := by
  subst hp; exact Go.via (fun _ k => XS.iloadN X.here hx rfl hd hl k) g
theorem s_istore (X : Stand p l e R s m args below meth c T locs cells slots) (hx : p.tables.exec = Jvm.exec) {k : Nat} {v : Int32} (hd : decode c.code pc = .ok (.istore k, 2)) (L' : Array Slot) (hl : storeLocals L k (.int v) = some L') (pc' : Nat) (hp : pc + 2 = pc') (g : Go p e below P (T.setTop (mkF m pc' L' (st)))) : Go p e below P (T.setTop (mkF m pc L (.int v :: st))) := by
  subst hp; exact Go.via (fun _ k => XS.istore X.here hx rfl hd rfl hl k) g
theorem s_istoreN (X : Stand p l e R s m args below meth c T locs cells slots) (hx : p.tables.exec = Jvm.exec) {k : Fin 4} {v : Int32} (hd : decode c.code pc = .ok (.istore_n k, 1)) (L' : Array Slot) (hl : storeLocals L k.val (.int v) = some L') (pc' : Nat) (hp : pc + 1 = pc') (g : Go p e below P (T.setTop (mkF m pc' L' (st)))) : Go p e below P (T.setTop (mkF m pc L (.int v :: st))) := by
  subst hp; exact Go.via (fun _ k => XS.istoreN X.here hx rfl hd rfl hl k) g
theorem s_lload (X : Stand p l e R s m args below meth c T locs cells slots) (hx : p.tables.exec = Jvm.exec) {k : Nat} {v : Int64} (hd : decode c.code pc = .ok (.lload k, 2)) (hl : L[k]? = some (.val (.long v))) (pc' : Nat) (hp : pc + 2 = pc') (g : Go p e below P (T.setTop (mkF m pc' L (.long v :: st)))) : Go p e below P (T.setTop (mkF m pc L (st))) := by
  subst hp; exact Go.via (fun _ k => XT.lload X.here hx rfl hd hl k) g
theorem s_lloadN (X : Stand p l e R s m args below meth c T locs cells slots) (hx : p.tables.exec = Jvm.exec) {k : Fin 4} {v : Int64} (hd : decode c.code pc = .ok (.lload_n k, 1)) (hl : L[k.val]? = some (.val (.long v))) (pc' : Nat) (hp : pc + 1 = pc') (g : Go p e below P (T.setTop (mkF m pc' L (.long v :: st)))) : Go p e below P (T.setTop (mkF m pc L (st))) := by
  subst hp; exact Go.via (fun _ k => XT.lloadN X.here hx rfl hd hl k) g
theorem s_lstore (X : Stand p l e R s m args below meth c T locs cells slots) (hx : p.tables.exec = Jvm.exec) {k : Nat} {v : Int64} (hd : decode c.code pc = .ok (.lstore k, 2)) (L' : Array Slot) (hl : storeLocals L k (.long v) = some L') (pc' : Nat) (hp : pc + 2 = pc') (g : Go p e below P (T.setTop (mkF m pc' L' (st)))) : Go p e below P (T.setTop (mkF m pc L (.long v :: st))) := by
  subst hp; exact Go.via (fun _ k => XT.lstore X.here hx rfl hd rfl hl k) g
theorem s_lstoreN (X : Stand p l e R s m args below meth c T locs cells slots) (hx : p.tables.exec = Jvm.exec) {k : Fin 4} {v : Int64} (hd : decode c.code pc = .ok (.lstore_n k, 1)) (L' : Array Slot) (hl : storeLocals L k.val (.long v) = some L') (pc' : Nat) (hp : pc + 1 = pc') (g : Go p e below P (T.setTop (mkF m pc' L' (st)))) : Go p e below P (T.setTop (mkF m pc L (.long v :: st))) := by
  subst hp; exact Go.via (fun _ k => XT.lstoreN X.here hx rfl hd rfl hl k) g
theorem s_dload (X : Stand p l e R s m args below meth c T locs cells slots) (hx : p.tables.exec = Jvm.exec) {k : Nat} {v : UInt64} (hd : decode c.code pc = .ok (.dload k, 2)) (hl : L[k]? = some (.val (.double v))) (pc' : Nat) (hp : pc + 2 = pc') (g : Go p e below P (T.setTop (mkF m pc' L (.double v :: st)))) : Go p e below P (T.setTop (mkF m pc L (st))) := by
  subst hp; exact Go.via (fun _ k => XS.dload X.here hx rfl hd hl k) g
theorem s_dloadN (X : Stand p l e R s m args below meth c T locs cells slots) (hx : p.tables.exec = Jvm.exec) {k : Fin 4} {v : UInt64} (hd : decode c.code pc = .ok (.dload_n k, 1)) (hl : L[k.val]? = some (.val (.double v))) (pc' : Nat) (hp : pc + 1 = pc') (g : Go p e below P (T.setTop (mkF m pc' L (.double v :: st)))) : Go p e below P (T.setTop (mkF m pc L (st))) := by
  subst hp; exact Go.via (fun _ k => XS.dloadN X.here hx rfl hd hl k) g
theorem s_dstore (X : Stand p l e R s m args below meth c T locs cells slots) (hx : p.tables.exec = Jvm.exec) {k : Nat} {v : UInt64} (hd : decode c.code pc = .ok (.dstore k, 2)) (L' : Array Slot) (hl : storeLocals L k (.double v) = some L') (pc' : Nat) (hp : pc + 2 = pc') (g : Go p e below P (T.setTop (mkF m pc' L' (st)))) : Go p e below P (T.setTop (mkF m pc L (.double v :: st))) := by
  subst hp; exact Go.via (fun _ k => XS.dstore X.here hx rfl hd rfl hl k) g
theorem s_dstoreN (X : Stand p l e R s m args below meth c T locs cells slots) (hx : p.tables.exec = Jvm.exec) {k : Fin 4} {v : UInt64} (hd : decode c.code pc = .ok (.dstore_n k, 1)) (L' : Array Slot) (hl : storeLocals L k.val (.double v) = some L') (pc' : Nat) (hp : pc + 1 = pc') (g : Go p e below P (T.setTop (mkF m pc' L' (st)))) : Go p e below P (T.setTop (mkF m pc L (.double v :: st))) := by
  subst hp; exact Go.via (fun _ k => XS.dstoreN X.here hx rfl hd rfl hl k) g
theorem s_aload (X : Stand p l e R s m args below meth c T locs cells slots) (hx : p.tables.exec = Jvm.exec) {k : Nat} {v : Value} (hd : decode c.code pc = .ok (.aload k, 2)) (hl : L[k]? = some (.val v)) (hv : v.isRef = true) (pc' : Nat) (hp : pc + 2 = pc') (g : Go p e below P (T.setTop (mkF m pc' L (v :: st)))) : Go p e below P (T.setTop (mkF m pc L (st))) := by
  subst hp; exact Go.via (fun _ k => XS.aload X.here hx rfl hd hl hv k) g
theorem s_aloadN (X : Stand p l e R s m args below meth c T locs cells slots) (hx : p.tables.exec = Jvm.exec) {k : Fin 4} {v : Value} (hd : decode c.code pc = .ok (.aload_n k, 1)) (hl : L[k.val]? = some (.val v)) (hv : v.isRef = true) (pc' : Nat) (hp : pc + 1 = pc') (g : Go p e below P (T.setTop (mkF m pc' L (v :: st)))) : Go p e below P (T.setTop (mkF m pc L (st))) := by
  subst hp; exact Go.via (fun _ k => XS.aloadN X.here hx rfl hd hl hv k) g
theorem s_astore (X : Stand p l e R s m args below meth c T locs cells slots) (hx : p.tables.exec = Jvm.exec) {k : Nat} {v : Value} (hd : decode c.code pc = .ok (.astore k, 2)) (hv : v.isRef = true) (L' : Array Slot) (hl : storeLocals L k v = some L') (pc' : Nat) (hp : pc + 2 = pc') (g : Go p e below P (T.setTop (mkF m pc' L' (st)))) : Go p e below P (T.setTop (mkF m pc L (v :: st))) := by
  subst hp; exact Go.via (fun _ k => XS.astore X.here hx rfl hd rfl hv hl k) g
theorem s_astoreN (X : Stand p l e R s m args below meth c T locs cells slots) (hx : p.tables.exec = Jvm.exec) {k : Fin 4} {v : Value} (hd : decode c.code pc = .ok (.astore_n k, 1)) (hv : v.isRef = true) (L' : Array Slot) (hl : storeLocals L k.val v = some L') (pc' : Nat) (hp : pc + 1 = pc') (g : Go p e below P (T.setTop (mkF m pc' L' (st)))) : Go p e below P (T.setTop (mkF m pc L (v :: st))) := by
  subst hp; exact Go.via (fun _ k => XS.astoreN X.here hx rfl hd rfl hv hl k) g
theorem s_iconst (X : Stand p l e R s m args below meth c T locs cells slots) (hx : p.tables.exec = Jvm.exec) {i : Int} (hd : decode c.code pc = .ok (.iconst i, 1)) (v : Int32) (hv : Int32.ofInt i = v) (pc' : Nat) (hp : pc + 1 = pc') (g : Go p e below P (T.setTop (mkF m pc' L (.int v :: st)))) : Go p e below P (T.setTop (mkF m pc L (st))) := by
  subst hp hv; exact Go.via (fun _ k => XS.iconst X.here hx rfl hd k) g
theorem s_bipush (X : Stand p l e R s m args below meth c T locs cells slots) (hx : p.tables.exec = Jvm.exec) {i : Int} (hd : decode c.code pc = .ok (.bipush i, 2)) (v : Int32) (hv : (Int8.ofInt i).toInt32 = v) (pc' : Nat) (hp : pc + 2 = pc') (g : Go p e below P (T.setTop (mkF m pc' L (.int v :: st)))) : Go p e below P (T.setTop (mkF m pc L (st))) := by
  subst hp hv; exact Go.via (fun _ k => XS.bipush X.here hx rfl hd k) g
theorem s_sipush (X : Stand p l e R s m args below meth c T locs cells slots) (hx : p.tables.exec = Jvm.exec) {i : Int} (hd : decode c.code pc = .ok (.sipush i, 3)) (v : Int32) (hv : (Int16.ofInt i).toInt32 = v) (pc' : Nat) (hp : pc + 3 = pc') (g : Go p e below P (T.setTop (mkF m pc' L (.int v :: st)))) : Go p e below P (T.setTop (mkF m pc L (st))) := by
  subst hp hv; exact Go.via (fun _ k => XS.sipush X.here hx rfl hd k) g
theorem s_lconst (X : Stand p l e R s m args below meth c T locs cells slots) (hx : p.tables.exec = Jvm.exec) {i : Fin 2} (hd : decode c.code pc = .ok (.lconst i, 1)) (v : Int64) (hv : Int64.ofNat i = v) (pc' : Nat) (hp : pc + 1 = pc') (g : Go p e below P (T.setTop (mkF m pc' L (.long v :: st)))) : Go p e below P (T.setTop (mkF m pc L (st))) := by
  subst hp; exact Go.via (fun _ k => XT.lconstV X.here hx rfl v hd hv k) g
theorem s_null (X : Stand p l e R s m args below meth c T locs cells slots) (hx : p.tables.exec = Jvm.exec)  (hd : decode c.code pc = .ok (.aconst_null, 1))  (pc' : Nat) (hp : pc + 1 = pc') (g : Go p e below P (T.setTop (mkF m pc' L (.null :: st)))) : Go p e below P (T.setTop (mkF m pc L (st))) := by
  subst hp; exact Go.via (fun _ k => XS.aconstNull X.here hx rfl hd k) g
theorem s_dconst0 (X : Stand p l e R s m args below meth c T locs cells slots) (hx : p.tables.exec = Jvm.exec)  (hd : decode c.code pc = .ok (.dconst 0, 1)) (v : UInt64) (hv : FP.dconst0 = v) (pc' : Nat) (hp : pc + 1 = pc') (g : Go p e below P (T.setTop (mkF m pc' L (.double v :: st)))) : Go p e below P (T.setTop (mkF m pc L (st))) := by
  subst hp; exact Go.via (fun _ k => XS.dconst0 X.here hx rfl hd hv k) g
theorem s_dconst1 (X : Stand p l e R s m args below meth c T locs cells slots) (hx : p.tables.exec = Jvm.exec)  (hd : decode c.code pc = .ok (.dconst 1, 1)) (v : UInt64) (hv : FP.dconst1 = v) (pc' : Nat) (hp : pc + 1 = pc') (g : Go p e below P (T.setTop (mkF m pc' L (.double v :: st)))) : Go p e below P (T.setTop (mkF m pc L (st))) := by
  subst hp; exact Go.via (fun _ k => XS.dconst1 X.here hx rfl hd hv k) g
theorem s_ldcI (X : Stand p l e R s m args below meth c T locs cells slots) (hx : p.tables.exec = Jvm.exec) {i : Nat} {v : Int32} (hd : decode c.code pc = .ok (.ldc i, 2)) (hZ : Z.Warmed39 s.vm) {own : String} (hown : s.vm.findClass own = some m.cls) (w : (Cond.constant own i v).before a0 Z = true) (pc' : Nat) (hp : pc + 2 = pc') (g : Go p e below P (T.setTop (mkF m pc' L (.int v :: st)))) : Go p e below P (T.setTop (mkF m pc L (st))) := by
  subst hp; exact Go.via (fun _ k => X.ldcI hx hown (mvT hZ w) rfl hd k) g
theorem s_ldc2J (X : Stand p l e R s m args below meth c T locs cells slots) (hx : p.tables.exec = Jvm.exec) {i : Nat} {v : Int64} (hd : decode c.code pc = .ok (.ldc2_w i, 3)) (hZ : Z.Warmed39 s.vm) {own : String} (hown : s.vm.findClass own = some m.cls) (w : (Cond.constantLong own i v).before a0 Z = true) (pc' : Nat) (hp : pc + 3 = pc') (g : Go p e below P (T.setTop (mkF m pc' L (.long v :: st)))) : Go p e below P (T.setTop (mkF m pc L (st))) := by
  subst hp; exact Go.via (fun _ k => X.ldc2J hx hown (mvT hZ w) rfl hd k) g
theorem s_ldc2D (X : Stand p l e R s m args below meth c T locs cells slots) (hx : p.tables.exec = Jvm.exec) {i : Nat} {v : UInt64} (hd : decode c.code pc = .ok (.ldc2_w i, 3)) (hZ : Z.Warmed39 s.vm) {own : String} (hown : s.vm.findClass own = some m.cls) (w : (Cond.constantDouble own i v).before a0 Z = true) (pc' : Nat) (hp : pc + 3 = pc') (g : Go p e below P (T.setTop (mkF m pc' L (.double v :: st)))) : Go p e below P (T.setTop (mkF m pc L (st))) := by
  subst hp; exact Go.via (fun _ k => X.ldc2DoubleC hx hown (mvT hZ w) (g := mkF m pc L st) rfl hd _ k) g
theorem s_iadd (X : Stand p l e R s m args below meth c T locs cells slots) (hx : p.tables.exec = Jvm.exec) {x y : Int32} (hd : decode c.code pc = .ok (.iadd, 1)) (v : Int32) (hv : x + y = v) (pc' : Nat) (hp : pc + 1 = pc') (g : Go p e below P (T.setTop (mkF m pc' L (.int v :: st)))) : Go p e below P (T.setTop (mkF m pc L (.int y :: .int x :: st))) := by
  subst hp hv; exact Go.via (fun _ k => XS.iadd X.here hx rfl hd rfl k) g
theorem s_isub (X : Stand p l e R s m args below meth c T locs cells slots) (hx : p.tables.exec = Jvm.exec) {x y : Int32} (hd : decode c.code pc = .ok (.isub, 1)) (v : Int32) (hv : x - y = v) (pc' : Nat) (hp : pc + 1 = pc') (g : Go p e below P (T.setTop (mkF m pc' L (.int v :: st)))) : Go p e below P (T.setTop (mkF m pc L (.int y :: .int x :: st))) := by
  subst hp hv; exact Go.via (fun _ k => XS.isub X.here hx rfl hd rfl k) g
theorem s_imul (X : Stand p l e R s m args below meth c T locs cells slots) (hx : p.tables.exec = Jvm.exec) {x y : Int32} (hd : decode c.code pc = .ok (.imul, 1)) (v : Int32) (hv : x * y = v) (pc' : Nat) (hp : pc + 1 = pc') (g : Go p e below P (T.setTop (mkF m pc' L (.int v :: st)))) : Go p e below P (T.setTop (mkF m pc L (.int y :: .int x :: st))) := by
  subst hp hv; exact Go.via (fun _ k => XS.imul X.here hx rfl hd rfl k) g
theorem s_iand (X : Stand p l e R s m args below meth c T locs cells slots) (hx : p.tables.exec = Jvm.exec) {x y : Int32} (hd : decode c.code pc = .ok (.iand, 1)) (v : Int32) (hv : x &&& y = v) (pc' : Nat) (hp : pc + 1 = pc') (g : Go p e below P (T.setTop (mkF m pc' L (.int v :: st)))) : Go p e below P (T.setTop (mkF m pc L (.int y :: .int x :: st))) := by
  subst hp hv; exact Go.via (fun _ k => XS.iand X.here hx rfl hd rfl k) g
theorem s_ixor (X : Stand p l e R s m args below meth c T locs cells slots) (hx : p.tables.exec = Jvm.exec) {x y : Int32} (hd : decode c.code pc = .ok (.ixor, 1)) (v : Int32) (hv : x ^^^ y = v) (pc' : Nat) (hp : pc + 1 = pc') (g : Go p e below P (T.setTop (mkF m pc' L (.int v :: st)))) : Go p e below P (T.setTop (mkF m pc L (.int y :: .int x :: st))) := by
  subst hp hv; exact Go.via (fun _ k => XT.ixor X.here hx rfl hd rfl k) g
theorem s_ior (X : Stand p l e R s m args below meth c T locs cells slots) (hx : p.tables.exec = Jvm.exec) {x y : Int32} (hd : decode c.code pc = .ok (.ior, 1)) (v : Int32) (hv : x ||| y = v) (pc' : Nat) (hp : pc + 1 = pc') (g : Go p e below P (T.setTop (mkF m pc' L (.int v :: st)))) : Go p e below P (T.setTop (mkF m pc L (.int y :: .int x :: st))) := by
  subst hp hv; exact Go.via (fun _ k => XT.ior X.here hx rfl hd rfl k) g
theorem s_ishl (X : Stand p l e R s m args below meth c T locs cells slots) (hx : p.tables.exec = Jvm.exec) {x y : Int32} (hd : decode c.code pc = .ok (.ishl, 1)) (v : Int32) (hv : x <<< (y &&& 31) = v) (pc' : Nat) (hp : pc + 1 = pc') (g : Go p e below P (T.setTop (mkF m pc' L (.int v :: st)))) : Go p e below P (T.setTop (mkF m pc L (.int y :: .int x :: st))) := by
  subst hp hv; exact Go.via (fun _ k => XT.ishl X.here hx rfl hd rfl k) g
theorem s_ishr (X : Stand p l e R s m args below meth c T locs cells slots) (hx : p.tables.exec = Jvm.exec) {x y : Int32} (hd : decode c.code pc = .ok (.ishr, 1)) (v : Int32) (hv : x >>> (y &&& 31) = v) (pc' : Nat) (hp : pc + 1 = pc') (g : Go p e below P (T.setTop (mkF m pc' L (.int v :: st)))) : Go p e below P (T.setTop (mkF m pc L (.int y :: .int x :: st))) := by
  subst hp hv; exact Go.via (fun _ k => XT.ishr X.here hx rfl hd rfl k) g
theorem s_iushr (X : Stand p l e R s m args below meth c T locs cells slots) (hx : p.tables.exec = Jvm.exec) {x y : Int32} (hd : decode c.code pc = .ok (.iushr, 1)) (v : Int32) (hv : XT.ushr x y = v) (pc' : Nat) (hp : pc + 1 = pc') (g : Go p e below P (T.setTop (mkF m pc' L (.int v :: st)))) : Go p e below P (T.setTop (mkF m pc L (.int y :: .int x :: st))) := by
  subst hp hv; exact Go.via (fun _ k => XT.iushr X.here hx rfl hd rfl k) g
theorem s_idiv (X : Stand p l e R s m args below meth c T locs cells slots) (hx : p.tables.exec = Jvm.exec) {x y : Int32} (hd : decode c.code pc = .ok (.idiv, 1)) (hy : y ≠ 0) (v : Int32) (hv : x / y = v) (pc' : Nat) (hp : pc + 1 = pc') (g : Go p e below P (T.setTop (mkF m pc' L (.int v :: st)))) : Go p e below P (T.setTop (mkF m pc L (.int y :: .int x :: st))) := by
  subst hp hv; exact Go.via (fun _ k => XS.idiv X.here hx rfl hd rfl hy k) g
theorem s_irem (X : Stand p l e R s m args below meth c T locs cells slots) (hx : p.tables.exec = Jvm.exec) {x y : Int32} (hd : decode c.code pc = .ok (.irem, 1)) (hy : y ≠ 0) (v : Int32) (hv : x % y = v) (pc' : Nat) (hp : pc + 1 = pc') (g : Go p e below P (T.setTop (mkF m pc' L (.int v :: st)))) : Go p e below P (T.setTop (mkF m pc L (.int y :: .int x :: st))) := by
  subst hp hv; exact Go.via (fun _ k => RoadKit.iremM X hx rfl hd rfl hy k) g
theorem s_ineg (X : Stand p l e R s m args below meth c T locs cells slots) (hx : p.tables.exec = Jvm.exec) {x : Int32} (hd : decode c.code pc = .ok (.ineg, 1)) (v : Int32) (hv : -x = v) (pc' : Nat) (hp : pc + 1 = pc') (g : Go p e below P (T.setTop (mkF m pc' L (.int v :: st)))) : Go p e below P (T.setTop (mkF m pc L (.int x :: st))) := by
  subst hp hv; exact Go.via (fun _ k => XS.ineg X.here hx rfl hd rfl k) g
theorem s_ladd (X : Stand p l e R s m args below meth c T locs cells slots) (hx : p.tables.exec = Jvm.exec) {x y : Int64} (hd : decode c.code pc = .ok (.ladd, 1)) (v : Int64) (hv : x + y = v) (pc' : Nat) (hp : pc + 1 = pc') (g : Go p e below P (T.setTop (mkF m pc' L (.long v :: st)))) : Go p e below P (T.setTop (mkF m pc L (.long y :: .long x :: st))) := by
  subst hp hv; exact Go.via (fun _ k => XT.ladd X.here hx rfl hd rfl k) g
theorem s_lsub (X : Stand p l e R s m args below meth c T locs cells slots) (hx : p.tables.exec = Jvm.exec) {x y : Int64} (hd : decode c.code pc = .ok (.lsub, 1)) (v : Int64) (hv : x - y = v) (pc' : Nat) (hp : pc + 1 = pc') (g : Go p e below P (T.setTop (mkF m pc' L (.long v :: st)))) : Go p e below P (T.setTop (mkF m pc L (.long y :: .long x :: st))) := by
  subst hp hv; exact Go.via (fun _ k => XT.lsub X.here hx rfl hd rfl k) g
theorem s_lmul (X : Stand p l e R s m args below meth c T locs cells slots) (hx : p.tables.exec = Jvm.exec) {x y : Int64} (hd : decode c.code pc = .ok (.lmul, 1)) (v : Int64) (hv : x * y = v) (pc' : Nat) (hp : pc + 1 = pc') (g : Go p e below P (T.setTop (mkF m pc' L (.long v :: st)))) : Go p e below P (T.setTop (mkF m pc L (.long y :: .long x :: st))) := by
  subst hp hv; exact Go.via (fun _ k => XT.lmul X.here hx rfl hd rfl k) g
theorem s_land (X : Stand p l e R s m args below meth c T locs cells slots) (hx : p.tables.exec = Jvm.exec) {x y : Int64} (hd : decode c.code pc = .ok (.land, 1)) (v : Int64) (hv : x &&& y = v) (pc' : Nat) (hp : pc + 1 = pc') (g : Go p e below P (T.setTop (mkF m pc' L (.long v :: st)))) : Go p e below P (T.setTop (mkF m pc L (.long y :: .long x :: st))) := by
  subst hp hv; exact Go.via (fun _ k => XT.land X.here hx rfl hd rfl k) g
theorem s_lor (X : Stand p l e R s m args below meth c T locs cells slots) (hx : p.tables.exec = Jvm.exec) {x y : Int64} (hd : decode c.code pc = .ok (.lor, 1)) (v : Int64) (hv : x ||| y = v) (pc' : Nat) (hp : pc + 1 = pc') (g : Go p e below P (T.setTop (mkF m pc' L (.long v :: st)))) : Go p e below P (T.setTop (mkF m pc L (.long y :: .long x :: st))) := by
  subst hp hv; exact Go.via (fun _ k => XT.lor X.here hx rfl hd rfl k) g
theorem s_lxor (X : Stand p l e R s m args below meth c T locs cells slots) (hx : p.tables.exec = Jvm.exec) {x y : Int64} (hd : decode c.code pc = .ok (.lxor, 1)) (v : Int64) (hv : x ^^^ y = v) (pc' : Nat) (hp : pc + 1 = pc') (g : Go p e below P (T.setTop (mkF m pc' L (.long v :: st)))) : Go p e below P (T.setTop (mkF m pc L (.long y :: .long x :: st))) := by
  subst hp hv; exact Go.via (fun _ k => XT.lxor X.here hx rfl hd rfl k) g
theorem s_ldiv (X : Stand p l e R s m args below meth c T locs cells slots) (hx : p.tables.exec = Jvm.exec) {x y : Int64} (hd : decode c.code pc = .ok (.ldiv, 1)) (hy : y ≠ 0) (v : Int64) (hv : x / y = v) (pc' : Nat) (hp : pc + 1 = pc') (g : Go p e below P (T.setTop (mkF m pc' L (.long v :: st)))) : Go p e below P (T.setTop (mkF m pc L (.long y :: .long x :: st))) := by
  subst hp hv; exact Go.via (fun _ k => XT.ldiv X.here hx rfl hd rfl hy k) g
theorem s_lrem (X : Stand p l e R s m args below meth c T locs cells slots) (hx : p.tables.exec = Jvm.exec) {x y : Int64} (hd : decode c.code pc = .ok (.lrem, 1)) (hy : y ≠ 0) (v : Int64) (hv : x - (x / y) * y = v) (pc' : Nat) (hp : pc + 1 = pc') (g : Go p e below P (T.setTop (mkF m pc' L (.long v :: st)))) : Go p e below P (T.setTop (mkF m pc L (.long y :: .long x :: st))) := by
  subst hp hv; exact Go.via (fun _ k => XT.lrem X.here hx rfl hd rfl hy k) g
theorem s_lneg (X : Stand p l e R s m args below meth c T locs cells slots) (hx : p.tables.exec = Jvm.exec) {x : Int64} (hd : decode c.code pc = .ok (.lneg, 1)) (v : Int64) (hv : -x = v) (pc' : Nat) (hp : pc + 1 = pc') (g : Go p e below P (T.setTop (mkF m pc' L (.long v :: st)))) : Go p e below P (T.setTop (mkF m pc L (.long x :: st))) := by
  subst hp hv; exact Go.via (fun _ k => XT.lneg X.here hx rfl hd rfl k) g
theorem sh64 (y : Int32) : (y.toInt64 &&& 63) = (y &&& 0x3f).toInt64 := by rw [Int32.toInt64_and]; rfl
theorem s_lshl (X : Stand p l e R s m args below meth c T locs cells slots) (hx : p.tables.exec = Jvm.exec) {x : Int64} {y : Int32} (hd : decode c.code pc = .ok (.lshl, 1)) (v : Int64) (hv : x <<< (y &&& 0x3f).toInt64 = v) (pc' : Nat) (hp : pc + 1 = pc') (g : Go p e below P (T.setTop (mkF m pc' L (.long v :: st)))) : Go p e below P (T.setTop (mkF m pc L (.int y :: .long x :: st))) := by
  subst hp hv; exact Go.via (fun _ k => XT.lshl X.here hx rfl hd rfl (by rw [sh64]; exact k)) g
theorem s_lshr (X : Stand p l e R s m args below meth c T locs cells slots) (hx : p.tables.exec = Jvm.exec) {x : Int64} {y : Int32} (hd : decode c.code pc = .ok (.lshr, 1)) (v : Int64) (hv : x >>> (y &&& 0x3f).toInt64 = v) (pc' : Nat) (hp : pc + 1 = pc') (g : Go p e below P (T.setTop (mkF m pc' L (.long v :: st)))) : Go p e below P (T.setTop (mkF m pc L (.int y :: .long x :: st))) := by
  subst hp hv; exact Go.via (fun _ k => XT.lshr X.here hx rfl hd rfl (by rw [sh64]; exact k)) g
theorem s_lushr (X : Stand p l e R s m args below meth c T locs cells slots) (hx : p.tables.exec = Jvm.exec) {x : Int64} {y : Int32} (hd : decode c.code pc = .ok (.lushr, 1)) (v : Int64) (hv : XT.ushrL x y = v) (pc' : Nat) (hp : pc + 1 = pc') (g : Go p e below P (T.setTop (mkF m pc' L (.long v :: st)))) : Go p e below P (T.setTop (mkF m pc L (.int y :: .long x :: st))) := by
  subst hp hv; exact Go.via (fun _ k => XT.lushr X.here hx rfl hd rfl k) g
theorem s_i2l (X : Stand p l e R s m args below meth c T locs cells slots) (hx : p.tables.exec = Jvm.exec) {x : Int32} (hd : decode c.code pc = .ok (.i2l, 1)) (v : Int64) (hv : x.toInt64 = v) (pc' : Nat) (hp : pc + 1 = pc') (g : Go p e below P (T.setTop (mkF m pc' L (.long v :: st)))) : Go p e below P (T.setTop (mkF m pc L (.int x :: st))) := by
  subst hp hv; exact Go.via (fun _ k => XT.i2l X.here hx rfl hd rfl k) g
theorem s_l2i (X : Stand p l e R s m args below meth c T locs cells slots) (hx : p.tables.exec = Jvm.exec) {x : Int64} (hd : decode c.code pc = .ok (.l2i, 1)) (v : Int32) (hv : x.toInt32 = v) (pc' : Nat) (hp : pc + 1 = pc') (g : Go p e below P (T.setTop (mkF m pc' L (.int v :: st)))) : Go p e below P (T.setTop (mkF m pc L (.long x :: st))) := by
  subst hp hv; exact Go.via (fun _ k => XT.l2i X.here hx rfl hd rfl k) g
theorem s_i2b (X : Stand p l e R s m args below meth c T locs cells slots) (hx : p.tables.exec = Jvm.exec) {x : Int32} (hd : decode c.code pc = .ok (.i2b, 1)) (v : Int32) (hv : x.toInt8.toInt32 = v) (pc' : Nat) (hp : pc + 1 = pc') (g : Go p e below P (T.setTop (mkF m pc' L (.int v :: st)))) : Go p e below P (T.setTop (mkF m pc L (.int x :: st))) := by
  subst hp hv; exact Go.via (fun _ k => XT.i2b X.here hx rfl hd rfl k) g
theorem s_i2s (X : Stand p l e R s m args below meth c T locs cells slots) (hx : p.tables.exec = Jvm.exec) {x : Int32} (hd : decode c.code pc = .ok (.i2s, 1)) (v : Int32) (hv : x.toInt16.toInt32 = v) (pc' : Nat) (hp : pc + 1 = pc') (g : Go p e below P (T.setTop (mkF m pc' L (.int v :: st)))) : Go p e below P (T.setTop (mkF m pc L (.int x :: st))) := by
  subst hp hv; exact Go.via (fun _ k => XT.i2s X.here hx rfl hd rfl k) g
theorem s_i2d (X : Stand p l e R s m args below meth c T locs cells slots) (hx : p.tables.exec = Jvm.exec) {x : Int32} (hd : decode c.code pc = .ok (.i2d, 1)) (v : UInt64) (hv : FP.i2d x = v) (pc' : Nat) (hp : pc + 1 = pc') (g : Go p e below P (T.setTop (mkF m pc' L (.double v :: st)))) : Go p e below P (T.setTop (mkF m pc L (.int x :: st))) := by
  subst hp; exact Go.via (fun _ k => XS.i2dS X.here hx rfl hd rfl hv k) g
theorem s_l2d (X : Stand p l e R s m args below meth c T locs cells slots) (hx : p.tables.exec = Jvm.exec) {x : Int64} (hd : decode c.code pc = .ok (.l2d, 1)) (v : UInt64) (hv : FP.l2d x = v) (pc' : Nat) (hp : pc + 1 = pc') (g : Go p e below P (T.setTop (mkF m pc' L (.double v :: st)))) : Go p e below P (T.setTop (mkF m pc L (.long x :: st))) := by
  subst hp; exact Go.via (fun _ k => XS.l2dS X.here hx rfl hd rfl hv k) g
theorem s_dneg (X : Stand p l e R s m args below meth c T locs cells slots) (hx : p.tables.exec = Jvm.exec) {x : UInt64} (hd : decode c.code pc = .ok (.dneg, 1)) (v : UInt64) (hv : FP.dneg x = v) (pc' : Nat) (hp : pc + 1 = pc') (g : Go p e below P (T.setTop (mkF m pc' L (.double v :: st)))) : Go p e below P (T.setTop (mkF m pc L (.double x :: st))) := by
  subst hp; exact Go.via (fun _ k => XS.dnegS X.here hx rfl hd rfl hv k) g
theorem s_dadd (X : Stand p l e R s m args below meth c T locs cells slots) (hx : p.tables.exec = Jvm.exec) {x y : UInt64} (hd : decode c.code pc = .ok (.dadd, 1)) (v : UInt64) (hv : FP.dadd x y = v) (hn : NoNaN64 v) (pc' : Nat) (hp : pc + 1 = pc') (g : Go p e below P (T.setTop (mkF m pc' L (.double v :: st)))) : Go p e below P (T.setTop (mkF m pc L (.double y :: .double x :: st))) := by
  subst hp hv; exact Go.via (fun _ k => XS.daddS X.here hx rfl hd rfl hn rfl k) g
theorem s_dsub (X : Stand p l e R s m args below meth c T locs cells slots) (hx : p.tables.exec = Jvm.exec) {x y : UInt64} (hd : decode c.code pc = .ok (.dsub, 1)) (v : UInt64) (hv : FP.dsub x y = v) (hn : NoNaN64 v) (pc' : Nat) (hp : pc + 1 = pc') (g : Go p e below P (T.setTop (mkF m pc' L (.double v :: st)))) : Go p e below P (T.setTop (mkF m pc L (.double y :: .double x :: st))) := by
  subst hp hv; exact Go.via (fun _ k => XS.dsubS X.here hx rfl hd rfl hn rfl k) g
theorem s_dmul (X : Stand p l e R s m args below meth c T locs cells slots) (hx : p.tables.exec = Jvm.exec) {x y : UInt64} (hd : decode c.code pc = .ok (.dmul, 1)) (v : UInt64) (hv : FP.dmul x y = v) (hn : NoNaN64 v) (pc' : Nat) (hp : pc + 1 = pc') (g : Go p e below P (T.setTop (mkF m pc' L (.double v :: st)))) : Go p e below P (T.setTop (mkF m pc L (.double y :: .double x :: st))) := by
  subst hp hv; exact Go.via (fun _ k => XS.dmulS X.here hx rfl hd rfl hn rfl k) g
theorem s_ddiv (X : Stand p l e R s m args below meth c T locs cells slots) (hx : p.tables.exec = Jvm.exec) {x y : UInt64} (hd : decode c.code pc = .ok (.ddiv, 1)) (v : UInt64) (hv : FP.ddiv x y = v) (hn : NoNaN64 v) (pc' : Nat) (hp : pc + 1 = pc') (g : Go p e below P (T.setTop (mkF m pc' L (.double v :: st)))) : Go p e below P (T.setTop (mkF m pc L (.double y :: .double x :: st))) := by
  subst hp hv; exact Go.via (fun _ k => XS.ddivS X.here hx rfl hd rfl hn rfl k) g
theorem s_dcmp (X : Stand p l e R s m args below meth c T locs cells slots) (hx : p.tables.exec = Jvm.exec) {x y : UInt64} {o : CmpOp} (hd : decode c.code pc = .ok (.dcmp o, 1)) (v : Int32) (hv : cmpValue (FP.dcmp x y) o = v) (pc' : Nat) (hp : pc + 1 = pc') (g : Go p e below P (T.setTop (mkF m pc' L (.int v :: st)))) : Go p e below P (T.setTop (mkF m pc L (.double y :: .double x :: st))) := by
  subst hp; exact Go.via (fun _ k => XS.dcmpS X.here hx rfl hd rfl hv k) g
theorem s_lcmp (X : Stand p l e R s m args below meth c T locs cells slots) (hx : p.tables.exec = Jvm.exec) {x y : Int64} (hd : decode c.code pc = .ok (.lcmp, 1)) (v : Int32) (hv : XT.cmpL x y = v) (pc' : Nat) (hp : pc + 1 = pc') (g : Go p e below P (T.setTop (mkF m pc' L (.int v :: st)))) : Go p e below P (T.setTop (mkF m pc L (.long y :: .long x :: st))) := by
  subst hp hv; exact Go.via (fun _ k => XT.lcmp X.here hx rfl hd rfl k) g
theorem s_dup (X : Stand p l e R s m args below meth c T locs cells slots) (hx : p.tables.exec = Jvm.exec) {x : Value} (hd : decode c.code pc = .ok (.dup, 1)) (hc : x.category = 1) (pc' : Nat) (hp : pc + 1 = pc') (g : Go p e below P (T.setTop (mkF m pc' L (x :: x :: st)))) : Go p e below P (T.setTop (mkF m pc L (x :: st))) := by
  subst hp; exact Go.via (fun _ k => XS.dup X.here hx rfl hd rfl hc k) g
theorem s_pop (X : Stand p l e R s m args below meth c T locs cells slots) (hx : p.tables.exec = Jvm.exec) {x : Value} (hd : decode c.code pc = .ok (.pop, 1)) (hc : x.category = 1) (pc' : Nat) (hp : pc + 1 = pc') (g : Go p e below P (T.setTop (mkF m pc' L (st)))) : Go p e below P (T.setTop (mkF m pc L (x :: st))) := by
  subst hp; exact Go.via (fun _ k => XT.pop X.here hx rfl hd rfl hc k) g
theorem s_dupX1 (X : Stand p l e R s m args below meth c T locs cells slots) (hx : p.tables.exec = Jvm.exec) {x y : Value} (hd : decode c.code pc = .ok (.dup_x1, 1)) (hc : x.category = 1) (hc' : y.category = 1) (pc' : Nat) (hp : pc + 1 = pc') (g : Go p e below P (T.setTop (mkF m pc' L (x :: y :: x :: st)))) : Go p e below P (T.setTop (mkF m pc L (x :: y :: st))) := by
  subst hp; exact Go.via (fun _ k => XT.dupX1 X.here hx rfl hd rfl hc hc' k) g
theorem s_dup2 (X : Stand p l e R s m args below meth c T locs cells slots) (hx : p.tables.exec = Jvm.exec) {x y : Value} (hd : decode c.code pc = .ok (.dup2, 1)) (hc : x.category = 1) (hc' : y.category = 1) (pc' : Nat) (hp : pc + 1 = pc') (g : Go p e below P (T.setTop (mkF m pc' L (x :: y :: x :: y :: st)))) : Go p e below P (T.setTop (mkF m pc L (x :: y :: st))) := by
  subst hp; exact Go.via (fun _ k => XT.dup2 X.here hx rfl hd rfl hc hc' k) g
theorem s_iinc (X : Stand p l e R s m args below meth c T locs cells slots) (hx : p.tables.exec = Jvm.exec) {k : Nat} {cst : Int} {x : Int32} (hd : decode c.code pc = .ok (.iinc k cst, 3)) (v : Int32) (hv : x + Int32.ofInt cst = v) (hl : L[k]? = some (.val (.int x))) (L' : Array Slot) (hl' : storeLocals L k (.int v) = some L') (pc' : Nat) (hp : pc + 3 = pc') (g : Go p e below P (T.setTop (mkF m pc' L' (st)))) : Go p e below P (T.setTop (mkF m pc L (st))) := by
  subst hp hv; exact Go.via (fun _ k => XS.iinc X.here hx rfl hd hl hl' k) g
theorem s_goto (X : Stand p l e R s m args below meth c T locs cells slots) (hx : p.tables.exec = Jvm.exec) {o : Int} (hd : decode c.code pc = .ok (.goto o, 3)) (pc' : Nat) (ho : 0 ≤ (pc : Int) + o) (hp : ((pc : Int) + o).toNat = pc') (g : Go p e below P (T.setTop (mkF m pc' L st))) : Go p e below P (T.setTop (mkF m pc L st)) := Go.via (fun _ k => XS.goto X.here hx rfl rfl hd ho hp k) g
theorem s_ifY (X : Stand p l e R s m args below meth c T locs cells slots) (hx : p.tables.exec = Jvm.exec) {cd : ClassFile.Cond} {o : Int} {x : Int32} (hd : decode c.code pc = .ok (.ifCond cd o, 3)) (hc : ifCond.holds cd x = true) (pc' : Nat) (ho : 0 ≤ (pc : Int) + o) (hp : ((pc : Int) + o).toNat = pc') (g : Go p e below P (T.setTop (mkF m pc' L st))) : Go p e below P (T.setTop (mkF m pc L (.int x :: st))) := Go.via (fun _ k => XS.ifYes X.here hx rfl rfl hd rfl hc ho hp k) g
theorem s_ifN (X : Stand p l e R s m args below meth c T locs cells slots) (hx : p.tables.exec = Jvm.exec) {cd : ClassFile.Cond} {o : Int} {x : Int32} (hd : decode c.code pc = .ok (.ifCond cd o, 3)) (hc : ifCond.holds cd x = false) (pc' : Nat) (hp : pc + 3 = pc') (g : Go p e below P (T.setTop (mkF m pc' L (st)))) : Go p e below P (T.setTop (mkF m pc L (.int x :: st))) := by
  subst hp; exact Go.via (fun _ k => XS.ifNo X.here hx rfl hd rfl hc k) g
theorem s_icmpY (X : Stand p l e R s m args below meth c T locs cells slots) (hx : p.tables.exec = Jvm.exec) {cd : ClassFile.Cond} {o : Int} {x y : Int32} (hd : decode c.code pc = .ok (.if_icmp cd o, 3)) (hc : if_icmp.holds cd x y = true) (pc' : Nat) (ho : 0 ≤ (pc : Int) + o) (hp : ((pc : Int) + o).toNat = pc') (g : Go p e below P (T.setTop (mkF m pc' L st))) : Go p e below P (T.setTop (mkF m pc L (.int y :: .int x :: st))) := Go.via (fun _ k => XS.icmpYes X.here hx rfl rfl hd rfl hc ho hp k) g
theorem s_icmpN (X : Stand p l e R s m args below meth c T locs cells slots) (hx : p.tables.exec = Jvm.exec) {cd : ClassFile.Cond} {o : Int} {x y : Int32} (hd : decode c.code pc = .ok (.if_icmp cd o, 3)) (hc : if_icmp.holds cd x y = false) (pc' : Nat) (hp : pc + 3 = pc') (g : Go p e below P (T.setTop (mkF m pc' L (st)))) : Go p e below P (T.setTop (mkF m pc L (.int y :: .int x :: st))) := by
  subst hp; exact Go.via (fun _ k => XS.icmpNo X.here hx rfl hd rfl hc k) g
theorem s_acmpY (X : Stand p l e R s m args below meth c T locs cells slots) (hx : p.tables.exec = Jvm.exec) {cd : ClassFile.ACond} {o : Int} {x y : Value} (hd : decode c.code pc = .ok (.if_acmp cd o, 3)) (h1 : x.isRef = true) (h2 : y.isRef = true) (hc : XT.acmp cd x y = true) (pc' : Nat) (ho : 0 ≤ (pc : Int) + o) (hp : ((pc : Int) + o).toNat = pc') (g : Go p e below P (T.setTop (mkF m pc' L st))) : Go p e below P (T.setTop (mkF m pc L (y :: x :: st))) := Go.via (fun _ k => XT.acmpYes X.here hx rfl rfl hd rfl h1 h2 hc ho hp k) g
theorem s_acmpN (X : Stand p l e R s m args below meth c T locs cells slots) (hx : p.tables.exec = Jvm.exec) {cd : ClassFile.ACond} {o : Int} {x y : Value} (hd : decode c.code pc = .ok (.if_acmp cd o, 3)) (h1 : x.isRef = true) (h2 : y.isRef = true) (hc : XT.acmp cd x y = false) (pc' : Nat) (hp : pc + 3 = pc') (g : Go p e below P (T.setTop (mkF m pc' L (st)))) : Go p e below P (T.setTop (mkF m pc L (y :: x :: st))) := by
  subst hp; exact Go.via (fun _ k => XT.acmpNo X.here hx rfl hd rfl h1 h2 hc k) g
theorem s_ifnullN (X : Stand p l e R s m args below meth c T locs cells slots) (hx : p.tables.exec = Jvm.exec) {o : Int} {b : Addr} (hd : decode c.code pc = .ok (.ifnull o, 3))  (pc' : Nat) (hp : pc + 3 = pc') (g : Go p e below P (T.setTop (mkF m pc' L (st)))) : Go p e below P (T.setTop (mkF m pc L (.ref b :: st))) := by
  subst hp; exact Go.via (fun _ k => XS.ifnullNo X.here hx rfl hd rfl k) g
theorem s_ifnullY (X : Stand p l e R s m args below meth c T locs cells slots) (hx : p.tables.exec = Jvm.exec) {o : Int} (hd : decode c.code pc = .ok (.ifnull o, 3)) (pc' : Nat) (ho : 0 ≤ (pc : Int) + o) (hp : ((pc : Int) + o).toNat = pc') (g : Go p e below P (T.setTop (mkF m pc' L st))) : Go p e below P (T.setTop (mkF m pc L (.null :: st))) := Go.via (fun _ k => XS.ifnullYes X.here hx rfl rfl hd rfl ho hp k) g
theorem s_ifnonnullN (X : Stand p l e R s m args below meth c T locs cells slots) (hx : p.tables.exec = Jvm.exec) {o : Int} (hd : decode c.code pc = .ok (.ifnonnull o, 3))  (pc' : Nat) (hp : pc + 3 = pc') (g : Go p e below P (T.setTop (mkF m pc' L (st)))) : Go p e below P (T.setTop (mkF m pc L (.null :: st))) := by
  subst hp; exact Go.via (fun _ k => XT.ifnonnullNo X.here hx rfl hd rfl k) g
theorem s_ifnonnullY (X : Stand p l e R s m args below meth c T locs cells slots) (hx : p.tables.exec = Jvm.exec) {o : Int} {b : Addr} (hd : decode c.code pc = .ok (.ifnonnull o, 3)) (pc' : Nat) (ho : 0 ≤ (pc : Int) + o) (hp : ((pc : Int) + o).toNat = pc') (g : Go p e below P (T.setTop (mkF m pc' L st))) : Go p e below P (T.setTop (mkF m pc L (.ref b :: st))) := Go.via (fun _ k => XT.ifnonnullYes X.here hx rfl rfl hd rfl ho hp k) g
section Cmp
variable {r : Option Ordering} {o : CmpOp}
theorem dd_ne_t (h : r ≠ some .eq) : ifCond.holds .ne (cmpValue r o) = true := by rcases r with _ | (_ | _ | _) <;> cases o <;> first | rfl | exact absurd rfl h
theorem dd_ne_f (h : r = some .eq) : ifCond.holds .ne (cmpValue r o) = false := by subst h; cases o <;> rfl
theorem dd_eq_t (h : r = some .eq) : ifCond.holds .eq (cmpValue r o) = true := by subst h; cases o <;> rfl
theorem dd_eq_f (h : r ≠ some .eq) : ifCond.holds .eq (cmpValue r o) = false := by rcases r with _ | (_ | _ | _) <;> cases o <;> first | rfl | exact absurd rfl h
theorem dd_ge_t (h : r ≠ some .lt) : ifCond.holds .ge (cmpValue r .g) = true := by rcases r with _ | (_ | _ | _) <;> first | rfl | exact absurd rfl h
theorem dd_ge_f (h : r = some .lt) : ifCond.holds .ge (cmpValue r .g) = false := by subst h; rfl
theorem dd_le_t (h : r ≠ some .gt) : ifCond.holds .le (cmpValue r .l) = true := by rcases r with _ | (_ | _ | _) <;> first | rfl | exact absurd rfl h
theorem dd_le_f (h : r = some .gt) : ifCond.holds .le (cmpValue r .l) = false := by subst h; rfl
theorem dd_gt_f (h : r = some .lt ∨ r = some .eq) : ifCond.holds .gt (cmpValue r .g) = false := by rcases h with h | h <;> (subst h; rfl)
theorem dd_lt_f (h : r = some .gt ∨ r = some .eq) : ifCond.holds .lt (cmpValue r .l) = false := by rcases h with h | h <;> (subst h; rfl)
theorem dd_lt_t (h : r = some .lt) : ifCond.holds .lt (cmpValue r o) = true := by subst h; cases o <;> rfl
end Cmp
end Steps1
/-! ## arrays, by the list of what they hold -/
section Arrays
variable {p : Program} {l : Launch} {e : Env} {R : Room} {s : State} {m : MethodId} {args : Array Value} {below : List Frame} {meth : Method} {c : Code} {T : State} {locs : List Loc} {cells slots : Nat} {P : Outcome → State → Prop} {pc : Nat} {L : Array Slot} {st : List Value} {Z : State} {h h' : Heap} {a b : Addr} {a0 : Array Value} {k : ClassId} {ty : FieldType} {vs : List Value} {v : Value} {sl : Nat} {ws : List Addr}
/-- at a lies an array of components ty, of the class numbered k, that holds vs -/
def AR (Z : State) (h : Heap) (a : Addr) (k : ClassId) (ty : FieldType) (vs : List Value) : Prop := ∃ c : Cell, Arr Z h a c ty ∧ c.cls = k ∧ c.slots = vs.toArray
theorem AR.lt (F : AR Z h a k ty vs) : a < h.size := by obtain ⟨c, A, -⟩ := F; exact A.lt
theorem AR.ext (F : AR Z h a k ty vs) (E : Ext h h') : AR Z h' a k ty vs := by obtain ⟨c, A, r⟩ := F; exact ⟨c, A.ext E, r⟩
theorem AR.other (F : AR Z h b k ty vs) (W : Wr h h' a sl v) (q : b ≠ a) : AR Z h' b k ty vs := by obtain ⟨c, A, r⟩ := F; exact ⟨c, A.other W q, r⟩
theorem AR.keep (F : AR Z h a k ty vs) (K : Keep h h' ws) (q : a ∉ ws) : AR Z h' a k ty vs := by obtain ⟨c, A, r⟩ := F; exact ⟨c, ⟨K.2.1 a c A.1 q, A.2⟩, r⟩
theorem AR.same (F : AR Z h a k ty vs) (W : Wr h h' a sl v) : AR Z h' a k ty (vs.set sl v) := by
  obtain ⟨c, A, r1, r2⟩ := F
  exact ⟨c.setSlot sl v, A.same W, r1, by simp [Cell.setSlot, r2]⟩
theorem ar_len {c : Cell} (r : c.slots = vs.toArray) : c.slots.size = vs.length := by rw [r]; simp
theorem ar_in {c : Cell} (r : c.slots = vs.toArray) {j : Int32} {i : Nat} (hj : ¬ j < 0 ∧ j.toNatClampNeg = i) (hv : vs[i]? = some v) : ¬ (j < 0 ∨ c.slots.size ≤ j.toNatClampNeg) ∧ c.slots[j.toNatClampNeg]? = some v := by
  obtain ⟨h1, rfl⟩ := hj
  have h2 : j.toNatClampNeg < vs.length := (List.getElem?_eq_some_iff.mp hv).1
  refine ⟨?_, by rw [r]; simpa using hv⟩
  rintro (q | q)
  · exact h1 q
  · rw [ar_len r] at q; omega
theorem s_len (X : Stand p l e R s m args below meth c T locs cells slots) (hx : p.tables.exec = Jvm.exec) (hZ : Z.Warmed39 s.vm) (eT : T.heap = h) (F : AR Z h a k ty vs) (hd : decode c.code pc = .ok (.arraylength, 1)) (n : Int32) (hn : vs.length.toInt32 = n) (pc' : Nat) (hp : pc + 1 = pc') (g : Go p e below P (T.setTop (mkF m pc' L (.int n :: st)))) : Go p e below P (T.setTop (mkF m pc L (.ref a :: st))) := by
  obtain ⟨cl, A, r1, r2⟩ := F
  subst hp hn
  rw [← ar_len r2] at g
  exact Go.via (fun _ k => X.arraylength hx (by rw [eT]; exact A.1) (State.isArrayOf_alike hZ.alike A.2.1) (g := mkF m pc L (.ref a :: st)) rfl rfl hd _ k) g
theorem s_iaload (X : Stand p l e R s m args below meth c T locs cells slots) (hx : p.tables.exec = Jvm.exec) (hZ : Z.Warmed39 s.vm) (eT : T.heap = h) (F : AR Z h a k .int vs) (hd : decode c.code pc = .ok (.iaload, 1)) {j : Int32} (i : Nat) (hj : ¬ j < 0 ∧ j.toNatClampNeg = i) (v : Value) (hv : vs[i]? = some v) (pc' : Nat) (hp : pc + 1 = pc') (g : Go p e below P (T.setTop (mkF m pc' L (v :: st)))) : Go p e below P (T.setTop (mkF m pc L (.int j :: .ref a :: st))) := by
  obtain ⟨cl, A, r1, r2⟩ := F
  obtain ⟨q1, q2⟩ := ar_in r2 hj hv
  subst hp
  exact Go.via (fun _ k => X.iaload hx (by rw [eT]; exact A.1) (State.isArrayOf_alike hZ.alike A.2.1) A.2.2 q1 q2 (g := mkF m pc L (.int j :: .ref a :: st)) rfl rfl hd _ k) g
theorem s_laload (X : Stand p l e R s m args below meth c T locs cells slots) (hx : p.tables.exec = Jvm.exec) (hZ : Z.Warmed39 s.vm) (eT : T.heap = h) (F : AR Z h a k .long vs) (hd : decode c.code pc = .ok (.laload, 1)) {j : Int32} (i : Nat) (hj : ¬ j < 0 ∧ j.toNatClampNeg = i) (v : Value) (hv : vs[i]? = some v) (pc' : Nat) (hp : pc + 1 = pc') (g : Go p e below P (T.setTop (mkF m pc' L (v :: st)))) : Go p e below P (T.setTop (mkF m pc L (.int j :: .ref a :: st))) := by
  obtain ⟨cl, A, r1, r2⟩ := F
  obtain ⟨q1, q2⟩ := ar_in r2 hj hv
  subst hp
  exact Go.via (fun _ k => X.laload hx (by rw [eT]; exact A.1) (State.isArrayOf_alike hZ.alike A.2.1) A.2.2 q1 q2 (g := mkF m pc L (.int j :: .ref a :: st)) rfl rfl hd _ k) g
theorem s_daload (X : Stand p l e R s m args below meth c T locs cells slots) (hx : p.tables.exec = Jvm.exec) (hZ : Z.Warmed39 s.vm) (eT : T.heap = h) (F : AR Z h a k .double vs) (hd : decode c.code pc = .ok (.daload, 1)) {j : Int32} (i : Nat) (hj : ¬ j < 0 ∧ j.toNatClampNeg = i) (v : Value) (hv : vs[i]? = some v) (pc' : Nat) (hp : pc + 1 = pc') (g : Go p e below P (T.setTop (mkF m pc' L (v :: st)))) : Go p e below P (T.setTop (mkF m pc L (.int j :: .ref a :: st))) := by
  obtain ⟨cl, A, r1, r2⟩ := F
  obtain ⟨q1, q2⟩ := ar_in r2 hj hv
  subst hp
  exact Go.via (fun _ k => X.daload hx (by rw [eT]; exact A.1) (State.isArrayOf_alike hZ.alike A.2.1) A.2.2 q1 q2 (g := mkF m pc L (.int j :: .ref a :: st)) rfl rfl hd _ k) g
theorem s_aaload (X : Stand p l e R s m args below meth c T locs cells slots) (hx : p.tables.exec = Jvm.exec) (hZ : Z.Warmed39 s.vm) (eT : T.heap = h) (F : AR Z h a k ty vs) (ht : ty.isReference = true) (hd : decode c.code pc = .ok (.aaload, 1)) {j : Int32} (i : Nat) (hj : ¬ j < 0 ∧ j.toNatClampNeg = i) (v : Value) (hv : vs[i]? = some v) (pc' : Nat) (hp : pc + 1 = pc') (g : Go p e below P (T.setTop (mkF m pc' L (v :: st)))) : Go p e below P (T.setTop (mkF m pc L (.int j :: .ref a :: st))) := by
  obtain ⟨cl, A, r1, r2⟩ := F
  obtain ⟨q1, q2⟩ := ar_in r2 hj hv
  subst hp
  exact Go.via (fun _ k => X.aaload hx (by rw [eT]; exact A.1) (State.isArrayOf_alike hZ.alike A.2.1) ht A.2.2 q1 q2 (g := mkF m pc L (.int j :: .ref a :: st)) rfl rfl hd _ k) g
theorem s_iastore (X : Stand p l e R s m args below meth c T locs cells slots) (hx : p.tables.exec = Jvm.exec) (hZ : Z.Warmed39 s.vm) (eT : T.heap = h) (F : AR Z h a k .int vs) (hd : decode c.code pc = .ok (.iastore, 1)) (L : Array Slot) (st : List Value) {j : Int32} (i : Nat) (hj : ¬ j < 0 ∧ j.toNatClampNeg = i) (hi : i < vs.length) (x : Int32) (vs' : List Value) (hvs : vs.set i (.int x) = vs') (pc' : Nat) (hp : pc + 1 = pc') :
    ∃ T' h', Stand p l e R s m args below meth c T' (locs ++ [⟨a, i⟩]) cells slots ∧ T'.heap = h' ∧ Wr h h' a i (.int x) ∧ AR Z h' a k .int vs' ∧ ∀ t, Steps p.tables e below (T'.setTop (mkF m pc' L st)) t → Steps p.tables e below (T.setTop (mkF m pc L (.int x :: .int j :: .ref a :: st))) t := by
  obtain ⟨cl, A, r1, r2⟩ := F
  obtain ⟨q1, -⟩ := ar_in r2 hj (List.getElem?_eq_getElem hi)
  obtain ⟨hj1, rfl⟩ := hj
  subst hp hvs
  obtain ⟨T', h', X', e', W, st'⟩ := stI X hx hZ eT A q1 (g := mkF m pc L (.int x :: .int j :: .ref a :: st)) rfl rfl hd
  exact ⟨T', h', X', e', W, AR.same ⟨cl, A, r1, r2⟩ W, st'⟩
theorem s_lastore (X : Stand p l e R s m args below meth c T locs cells slots) (hx : p.tables.exec = Jvm.exec) (hZ : Z.Warmed39 s.vm) (eT : T.heap = h) (F : AR Z h a k .long vs) (hd : decode c.code pc = .ok (.lastore, 1)) (L : Array Slot) (st : List Value) {j : Int32} (i : Nat) (hj : ¬ j < 0 ∧ j.toNatClampNeg = i) (hi : i < vs.length) (x : Int64) (vs' : List Value) (hvs : vs.set i (.long x) = vs') (pc' : Nat) (hp : pc + 1 = pc') :
    ∃ T' h', Stand p l e R s m args below meth c T' (locs ++ [⟨a, i⟩]) cells slots ∧ T'.heap = h' ∧ Wr h h' a i (.long x) ∧ AR Z h' a k .long vs' ∧ ∀ t, Steps p.tables e below (T'.setTop (mkF m pc' L st)) t → Steps p.tables e below (T.setTop (mkF m pc L (.long x :: .int j :: .ref a :: st))) t := by
  obtain ⟨cl, A, r1, r2⟩ := F
  obtain ⟨q1, -⟩ := ar_in r2 hj (List.getElem?_eq_getElem hi)
  obtain ⟨hj1, rfl⟩ := hj
  subst hp hvs
  obtain ⟨T', h', X', e', W, st'⟩ := stJ X hx hZ eT A q1 (g := mkF m pc L (.long x :: .int j :: .ref a :: st)) rfl rfl hd
  exact ⟨T', h', X', e', W, AR.same ⟨cl, A, r1, r2⟩ W, st'⟩
theorem s_dastore (X : Stand p l e R s m args below meth c T locs cells slots) (hx : p.tables.exec = Jvm.exec) (hZ : Z.Warmed39 s.vm) (eT : T.heap = h) (F : AR Z h a k .double vs) (hd : decode c.code pc = .ok (.dastore, 1)) (L : Array Slot) (st : List Value) {j : Int32} (i : Nat) (hj : ¬ j < 0 ∧ j.toNatClampNeg = i) (hi : i < vs.length) (x : UInt64) (vs' : List Value) (hvs : vs.set i (.double x) = vs') (pc' : Nat) (hp : pc + 1 = pc') :
    ∃ T' h', Stand p l e R s m args below meth c T' (locs ++ [⟨a, i⟩]) cells slots ∧ T'.heap = h' ∧ Wr h h' a i (.double x) ∧ AR Z h' a k .double vs' ∧ ∀ t, Steps p.tables e below (T'.setTop (mkF m pc' L st)) t → Steps p.tables e below (T.setTop (mkF m pc L (.double x :: .int j :: .ref a :: st))) t := by
  obtain ⟨cl, A, r1, r2⟩ := F
  obtain ⟨q1, -⟩ := ar_in r2 hj (List.getElem?_eq_getElem hi)
  obtain ⟨hj1, rfl⟩ := hj
  subst hp hvs
  obtain ⟨T', h', X', e', W, st'⟩ := stD X hx hZ eT A q1 (g := mkF m pc L (.double x :: .int j :: .ref a :: st)) rfl rfl hd
  exact ⟨T', h', X', e', W, AR.same ⟨cl, A, r1, r2⟩ W, st'⟩
theorem s_aastore (X : Stand p l e R s m args below meth c T locs cells slots) (hx : p.tables.exec = Jvm.exec) (hZ : Z.Warmed39 s.vm) (eT : T.heap = h) (F : AR Z h a k ty vs) (ht : ty.isReference = true) (hd : decode c.code pc = .ok (.aastore, 1)) (L : Array Slot) (st : List Value) {j : Int32} (i : Nat) (hj : ¬ j < 0 ∧ j.toNatClampNeg = i) (hi : i < vs.length) (x : Value) (S : Sto Z h a x) (vs' : List Value) (hvs : vs.set i x = vs') (pc' : Nat) (hp : pc + 1 = pc') :
    ∃ T' h', Stand p l e R s m args below meth c T' (locs ++ [⟨a, i⟩]) cells slots ∧ T'.heap = h' ∧ Wr h h' a i x ∧ AR Z h' a k ty vs' ∧ ∀ t, Steps p.tables e below (T'.setTop (mkF m pc' L st)) t → Steps p.tables e below (T.setTop (mkF m pc L (x :: .int j :: .ref a :: st))) t := by
  obtain ⟨cl, A, r1, r2⟩ := F
  obtain ⟨q1, -⟩ := ar_in r2 hj (List.getElem?_eq_getElem hi)
  obtain ⟨hj1, rfl⟩ := hj
  subst hp hvs
  obtain ⟨T', h', X', e', W, st'⟩ := stR X hx hZ eT A q1 ht S (g := mkF m pc L (x :: .int j :: .ref a :: st)) rfl rfl hd
  exact ⟨T', h', X', e', W, AR.same ⟨cl, A, r1, r2⟩ W, st'⟩
theorem s_newarray (X : Stand p l e R s m args below meth c T locs cells slots) (hx : p.tables.exec = Jvm.exec) (hZ : Z.Warmed39 s.vm) {aty : ArrayType} (w : (Cond.arrayClass (newarray.typeOf aty)).before a0 Z = true) (eT : T.heap = h) (hd : decode c.code pc = .ok (.newarray aty, 2)) (L : Array Slot) (st : List Value) {n : Int32} (cap : Nat) (hn : ¬ n < 0 ∧ n.toNatClampNeg = cap) (vs : List Value) (hvs : List.replicate cap (defaultValue (newarray.typeOf aty)) = vs) (hb : cap * 8 ≤ 536870912) (hc : cells + 1 ≤ R.cells) (hl : slots + cap ≤ R.slots) (pc' : Nat) (hp : pc + 2 = pc') :
    ∃ T' h' cA, Stand p l e R s m args below meth c T' locs (cells + 1) (slots + cap) ∧ T'.heap = h' ∧ Ext h h' ∧ AR Z h' h.size cA (newarray.typeOf aty) vs ∧ ∀ t, Steps p.tables e below (T'.setTop (mkF m pc' L (.ref h.size :: st))) t → Steps p.tables e below (T.setTop (mkF m pc L (.int n :: st))) t := by
  obtain ⟨n1, n2⟩ := hn
  obtain ⟨T', h', cA, X', e', E, A, st'⟩ := newP X hx hZ w eT (g := mkF m pc L (.int n :: st)) rfl hd rfl n1 (cap := cap) (Nat.le_of_eq n2) hb hc hl
  subst hp hvs
  exact ⟨T', h', cA, X', e', E, ⟨_, A, rfl, by simp [newA, n2]⟩, st'⟩
end Arrays
/-! ## calls by contract -/
section Calls
variable {p : Program} {l : Launch} {e : Env} {R : Room} {s : State} {m : MethodId} {args : Array Value} {below : List Frame} {meth : Method} {c : Code} {T : State} {locs : List Loc} {cells slots : Nat} {P : Outcome → State → Prop} {pc : Nat} {L : Array Slot} {st : List Value} {Z : State} {h h' : Heap} {a0 : Array Value} {own : String} {index : Nat} {y : MethodName} {bytes : ByteArray} {ml : Nat} {rm : Room} {as : Array Value} {Q : Option Value → Heap → List Loc → Prop}
theorem ct_back {ret : Option FieldType} {len W : Nat} (C : Ct l Z y bytes ml ret [] rm as h Q) (hZ : Z.Warmed39 s.vm) (wc : (Cond.code y bytes ml ret).before a0 Z = true) (wz : (Cond.initialized y.cls).before a0 Z = true) (hf : rm.frames + 1 ≤ R.frames) (hl : W + (ml + 11) + rm.locals ≤ R.locals) :
    Back l R p e below s args y len W (fun A a => a = as ∧ A.U.heap = h ∧ A.cells + rm.cells ≤ R.cells ∧ A.slots + rm.slots ≤ R.slots)
      (fun A _ v B => ∃ L, Q v B.U.heap L ∧ B.locs = A.locs ++ L ∧ B.cells = A.cells + rm.cells ∧ B.slots = A.slots + rm.slots) := backOf C hZ wc wz hf hl
theorem callStat {ret : Option FieldType} (X : Stand p l e R s m args below meth c T locs cells slots) (hx : p.tables.exec = Jvm.exec) (hZ : Z.Warmed39 s.vm) (hown : s.vm.findClass own = some m.cls) (w1 : (Cond.methodLink own index y).before a0 Z = true) (w2 : (Cond.static y).before a0 Z = true) (w3 : (Cond.initialized y.cls).before a0 Z = true) (w4 : (Cond.code y bytes ml ret).before a0 Z = true) (hy : y.cls ≠ "java/lang/invoke/MethodHandle" ∧ y.cls ≠ "java/lang/invoke/VarHandle") (C : Ct l Z y bytes ml ret [] rm as h Q) (eT : T.heap = h) (hd : decode c.code pc = .ok (.invokestatic index, 3)) (hml : L.size = c.maxLocals) (argsL rest : List Value) (hst : st = argsL.reverse ++ rest) (has : argsL.toArray = as) {ps : List FieldType} {r : Option FieldType} (hpd : parseMethodDescriptor y.desc = some ⟨ps, r⟩) (hln : argsL.length = ps.length) (W : Nat) (hW : 2 * 0 + (rest.map fun v => v.category).sum ≤ W) (hfr : rm.frames + 1 ≤ R.frames) (hlo : W + (ml + 11) + rm.locals ≤ R.locals) (hc : cells + rm.cells ≤ R.cells) (hs : slots + rm.slots ≤ R.slots) :
    ∃ v T' L', Stand p l e R s m args below meth c T' (locs ++ L') (cells + rm.cells) (slots + rm.slots) ∧ Q v T'.heap L' ∧ ∀ t, Steps p.tables e below (T'.setTop (mkF m (pc + 3) L (v.toList ++ rest))) t → Steps p.tables e below (T.setTop (mkF m pc L st)) t := by
  obtain ⟨v, _, ⟨T', L1, k1, n1⟩, -, X', ⟨L', hQ, l1, y1, z1⟩, st'⟩ := Jvm.LawKit.callS X hx (y := y) hown (mvT hZ w1) (mvT hZ w2) (mvT hZ w3) (mvT hZ w4) hy (ct_back (W := W) C hZ w4 w3 hfr hlo) (g := mkF m pc L st) rfl hml (argsL := argsL) (rest := rest) (lenOf hpd hln) hst hW hd (fun _ _ => ⟨has, eT, hc, hs⟩)
  dsimp only [Pt.U, Pt.locs, Pt.cells, Pt.slots] at X' l1 y1 z1 st' hQ
  subst l1 y1 z1
  exact ⟨v, T', L', X', hQ, st'⟩
theorem callInit (X : Stand p l e R s m args below meth c T locs cells slots) (hx : p.tables.exec = Jvm.exec) (hZ : Z.Warmed39 s.vm) (hown : s.vm.findClass own = some m.cls) (hin : y.name = "<init>") (w1 : (Cond.methodLink own index y).before a0 Z = true) (w2 : (Cond.instanceMethod y).before a0 Z = true) (w3 : (Cond.initialized y.cls).before a0 Z = true) (w4 : (Cond.code y bytes ml none).before a0 Z = true) (hy : y.cls ≠ "java/lang/invoke/MethodHandle" ∧ y.cls ≠ "java/lang/invoke/VarHandle") (C : Ct l Z y bytes ml none [] rm as h Q) (eT : T.heap = h) (hd : decode c.code pc = .ok (.invokespecial index, 3)) (hml : L.size = c.maxLocals) (a : Addr) (argsL rest : List Value) (hst : st = argsL.reverse ++ .ref a :: rest) (has : (.ref a :: argsL).toArray = as) {ps : List FieldType} {r : Option FieldType} (hpd : parseMethodDescriptor y.desc = some ⟨ps, r⟩) (hln : argsL.length = ps.length) (W : Nat) (hW : 2 * 0 + (rest.map fun v => v.category).sum ≤ W) (hfr : rm.frames + 1 ≤ R.frames) (hlo : W + (ml + 11) + rm.locals ≤ R.locals) (hc : cells + rm.cells ≤ R.cells) (hs : slots + rm.slots ≤ R.slots) :
    ∃ v T' L', Stand p l e R s m args below meth c T' (locs ++ L') (cells + rm.cells) (slots + rm.slots) ∧ Q v T'.heap L' ∧ ∀ t, Steps p.tables e below (T'.setTop (mkF m (pc + 3) L (v.toList ++ rest))) t → Steps p.tables e below (T.setTop (mkF m pc L st)) t := by
  obtain ⟨v, _, ⟨T', L1, k1, n1⟩, -, X', ⟨L', hQ, l1, y1, z1⟩, st'⟩ := X.specialBack hx (y := y) hin hown (mvT hZ w1) (mvT hZ w2) (mvT hZ w4) hy (ct_back (W := W) C hZ w4 w3 hfr hlo) (g := mkF m pc L st) rfl hml (Steps.refl _) (a := a) (argsL := argsL) (rest := rest) (lenOf hpd hln) hst hW hd (fun _ _ => ⟨has, eT, hc, hs⟩)
  dsimp only [Pt.U, Pt.locs, Pt.cells, Pt.slots] at X' l1 y1 z1 st' hQ
  subst l1 y1 z1
  exact ⟨v, T', L', X', hQ, fun t k => st'.trans k⟩
theorem callVirt {ret : Option FieldType} {C0 : String} (X : Stand p l e R s m args below meth c T locs cells slots) (hx : p.tables.exec = Jvm.exec) (hZ : Z.Warmed39 s.vm) (hown : s.vm.findClass own = some m.cls) (w1 : (Cond.methodLink own index y).before a0 Z = true) (w2 : (Cond.declares y).before a0 Z = true) (w3 : (Cond.selects C0 y y).before a0 Z = true) (w4 : (Cond.instanceMethod y).before a0 Z = true) (w5 : (Cond.initialized y.cls).before a0 Z = true) (w6 : (Cond.code y bytes ml ret).before a0 Z = true) (hy : y.cls ≠ "java/lang/invoke/MethodHandle" ∧ y.cls ≠ "java/lang/invoke/VarHandle") (C : Ct l Z y bytes ml ret [] rm as h Q) (eT : T.heap = h) (a : Addr) (E : Exa Z h a C0) (hd : decode c.code pc = .ok (.invokevirtual index, 3)) (hml : L.size = c.maxLocals) (argsL rest : List Value) (hst : st = argsL.reverse ++ .ref a :: rest) (has : (.ref a :: argsL).toArray = as) {ps : List FieldType} {r : Option FieldType} (hpd : parseMethodDescriptor y.desc = some ⟨ps, r⟩) (hln : argsL.length = ps.length) (W : Nat) (hW : 2 * 0 + (rest.map fun v => v.category).sum ≤ W) (hfr : rm.frames + 1 ≤ R.frames) (hlo : W + (ml + 11) + rm.locals ≤ R.locals) (hc : cells + rm.cells ≤ R.cells) (hs : slots + rm.slots ≤ R.slots) :
    ∃ v T' L', Stand p l e R s m args below meth c T' (locs ++ L') (cells + rm.cells) (slots + rm.slots) ∧ Q v T'.heap L' ∧ ∀ t, Steps p.tables e below (T'.setTop (mkF m (pc + 3) L (v.toList ++ rest))) t → Steps p.tables e below (T.setTop (mkF m pc L st)) t := by
  obtain ⟨cq, kq, qa, qb, qc⟩ := isOf hZ eT E
  obtain ⟨v, _, ⟨T', L1, k1, n1⟩, -, X', ⟨L', hQ, l1, y1, z1⟩, st'⟩ := X.virtualBack hx (y := y) (z := y) hown (mvT hZ w1) (mvT hZ w2) (notFace_of_selects (args := #[]) (mvT hZ w3)) (mvT hZ w3) (mvT hZ w4) hy (ct_back (W := W) C hZ w6 w5 hfr hlo) qa qc (g := mkF m pc L st) rfl hml (Steps.refl _) (argsL := argsL) (rest := rest) (lenOf hpd hln) hst hW hd (fun _ _ => ⟨has, eT, hc, hs⟩)
  dsimp only [Pt.U, Pt.locs, Pt.cells, Pt.slots] at X' l1 y1 z1 st' hQ
  subst l1 y1 z1
  exact ⟨v, T', L', X', hQ, fun t k => st'.trans k⟩
end Calls
end Jvm.OwnGo
namespace Jvm.OwnFP
open Jvm.FP Jvm.FP.Core Jvm.Free.Fl
/-- a * 2^x = b -/
def PE (a b : Nat) (x : Int) : Prop := a * 2 ^ x.toNat = b * 2 ^ (-x).toNat
theorem pe_iff {a b : Nat} {x : Int} (y z : Nat) (h : x = (y : Int) - z) : PE a b x ↔ a * 2 ^ y = b * 2 ^ z := by
  unfold PE
  obtain ⟨d, rfl, rfl⟩ : ∃ d, y = x.toNat + d ∧ z = (-x).toNat + d := ⟨min y z, by omega, by omega⟩
  have p1 : 0 < 2 ^ d := Nat.two_pow_pos _
  rw [Nat.pow_add, Nat.pow_add, ← Nat.mul_assoc, ← Nat.mul_assoc]
  exact ⟨fun q => by rw [q], fun q => Nat.eq_of_mul_eq_mul_right p1 q⟩
theorem PE.symm {a b : Nat} {x : Int} (h : PE a b x) : PE b a (-x) := by
  unfold PE at h ⊢; rw [Int.neg_neg]; exact h.symm
theorem PE.trans {a b c : Nat} {x y : Int} (h : PE a b x) (g : PE b c y) : PE a c (x + y) := by
  rw [pe_iff (x.toNat + y.toNat) ((-x).toNat + (-y).toNat) (by omega)]
  unfold PE at h g
  rw [Nat.pow_add, Nat.pow_add, ← Nat.mul_assoc, h, Nat.mul_right_comm, g, Nat.mul_assoc, Nat.mul_comm (2 ^ (-y).toNat)]
theorem PE.mul {a b : Nat} {x : Int} (h : PE a b x) (c : Nat) : PE (c * a) (c * b) x := by
  unfold PE at h ⊢; rw [Nat.mul_assoc, Nat.mul_assoc, h]
theorem PE.of {a b : Nat} {y z : Nat} (h : a * 2 ^ y = b * 2 ^ z) : PE a b ((y : Int) - z) := (pe_iff y z rfl).mpr h
theorem PE.cast {a b : Nat} {x y : Int} (h : PE a b x) (e : x = y) : PE a b y := e ▸ h
/-- the datum times 2^k -/
def sh (k : Int) : Datum → Datum
  | .fin s c q => .fin s c (q + k)
  | d => d
/-- the double a is i / 2^k, just so -/
def Dy (i : Int) (k : Nat) (a : UInt64) : Prop := Whole i (sh k (val64 a))
theorem Dy.fin {i : Int} {k : Nat} {a : UInt64} (h : Dy i k a) : ∃ s c q, val64 a = .fin s c q := by
  unfold Dy at h
  cases hv : val64 a with
  | nan => rw [hv] at h; exact h.elim
  | inf s => rw [hv] at h; exact h.elim
  | fin s c q => exact ⟨s, c, q, rfl⟩
theorem Dy.dfin {i : Int} {k : Nat} {a : UInt64} (h : Dy i k a) : DFin a := h.fin
theorem Dy.fin64 {i : Int} {k : Nat} {a : UInt64} (h : Dy i k a) : Fin64 a := fin64_core.mpr h.fin
theorem Dy.nn {i : Int} {k : Nat} {a : UInt64} (h : Dy i k a) : NoNaN64 a := h.fin64.noNaN
theorem Dy.ne {i : Int} {k : Nat} {a : UInt64} (h : Dy i k a) : val64 a ≠ .nan := h.dfin.ne_nan
theorem dy_int {i : Int} {a : UInt64} (h : DInt i a) : Dy i 0 a := by
  unfold DInt at h; unfold Dy
  cases hv : val64 a with
  | nan => rw [hv] at h; exact h.elim
  | inf s => rw [hv] at h; exact h.elim
  | fin s c q => rw [hv] at h; show Whole i (.fin s c (q + 0)); rw [Int.add_zero]; exact h
theorem Dy.int {i : Int} {a : UInt64} (h : Dy i 0 a) : DInt i a := by
  obtain ⟨s, c, q, hv⟩ := h.fin
  unfold Dy at h; unfold DInt
  rw [hv] at h ⊢
  have h : Whole i (.fin s c (q + 0)) := h
  rw [Int.add_zero] at h; exact h
theorem dy_i2d (x : Int32) : Dy x.toInt 0 (FP.i2d x) := dy_int (i2d_int x)
theorem dy_l2d {x : Int64} (h : x.toInt.natAbs ≤ 2 ^ 53) : Dy x.toInt 0 (FP.l2d x) := dy_int (l2d_int h)
theorem whole_pe {i : Int} {s : Bool} {c : Nat} {q : Int} (h : Whole i (.fin s c q)) : PE c i.natAbs q := whole_natAbs h
/-- what is so small a multiple of a power of two is a double -/
theorem dy_rnd {i : Int} {k : Nat} {s : Bool} {n : Nat} (hn : i.natAbs = n) (hs : i ≠ 0 → s = decide (i < 0)) (hi : n ≤ 2 ^ 53) (hk : k ≤ 1000) : Whole i (sh k (roundRatio b64 s n 1 (-(k : Int)))) := by
  by_cases h0 : n = 0
  · have : i = 0 := by omega
    subst this
    unfold roundRatio
    rw [if_pos h0]
    show signed s (0 * _) = 0 * _
    rw [Nat.zero_mul, Int.zero_mul]; exact signed_zero s
  · obtain ⟨c, q, hfit, hv⟩ := natFit good_b64 wide_b64 s (n := n) hi
    have hq : q = -1074 ∨ b64.tails ≤ c := by have := hfit.2.2.2; rw [qmin_b64] at this; exact this
    have hv' : n * 2 ^ (-q).toNat = c * 2 ^ q.toNat := by
      rw [show (0 - q).toNat = (-q).toNat by omega, show (q - 0).toNat = q.toNat by omega, Nat.mul_one] at hv; exact hv
    have hc : c < 2 ^ 53 := hfit.1
    have hq2 : q ≤ b64.qmax := hfit.2.2.1
    have hq1 : -53 ≤ q := by
      refine Int.le_of_not_gt fun hlt => ?_
      have e1 : q.toNat = 0 := by omega
      rw [e1, Nat.pow_zero, Nat.mul_one] at hv'
      have : 2 ^ 53 ≤ 2 ^ (-q).toNat := Nat.pow_le_pow_right (by decide) (by omega)
      have h2 : 1 * 2 ^ 53 ≤ n * 2 ^ (-q).toNat := Nat.mul_le_mul (by omega) this
      omega
    have hfit2 : Core.fits b64 (.fin s c (q - k)) := by
      refine ⟨hfit.1, ?_, by omega, Or.inr ?_⟩
      · rw [qmin_b64]; omega
      · rcases hq with hq | hq
        · omega
        · exact hq
    rw [roundRatio_exact good_b64 (by decide) hfit2 (by
      rw [show (-(k : Int) - (q - k)).toNat = (-q).toNat by omega, show (q - (k : Int) - -(k : Int)).toNat = q.toNat by omega, Nat.mul_one]; exact hv')]
    show Whole i (.fin s c (q - k + k))
    rw [show q - (k : Int) + k = q by omega]
    show signed s (c * 2 ^ q.toNat) = i * _
    rw [← hv', signed_mul, hs (by omega)]
    congr 1
    unfold signed
    by_cases h : i < 0 <;> simp [h] <;> omega
theorem dy_round {i : Int} {k : Nat} {s : Bool} {c : Nat} {q : Int} (h : Whole i (.fin s c (q + k))) (hi : i.natAbs ≤ 2 ^ 53) (hk : k ≤ 1000) : Whole i (sh k (round b64 (.fin s c q))) := by
  have e : round b64 (.fin s c q) = roundRatio b64 s i.natAbs 1 (-(k : Int)) := by
    refine roundRatio_congr (by decide) (by decide) ?_
    have := whole_natAbs h
    rw [show (q - -(k : Int)).toNat = (q + k).toNat by omega, show (-(k : Int) - q).toNat = (-(q + k)).toNat by omega]
    simpa using this
  rw [e]
  exact dy_rnd rfl (fun hz => whole_sign h hz) hi hk
theorem sh_sum (k : Int) (s : Bool) (c : Nat) (q : Int) (t : Bool) (d : Nat) (r : Int) : sh k (exactSum (.fin s c q) (.fin t d r)) = exactSum (.fin s c (q + k)) (.fin t d (r + k)) := by
  have e : min (q + k) (r + k) = min q r + k := by omega
  simp only [exactSum, sh, e, sumUnits, inUnits]
  rw [show q + k - (min q r + k) = q - min q r by omega, show r + k - (min q r + k) = r - min q r by omega]
theorem dy_add {i j : Int} {k : Nat} {a b : UInt64} (ha : Dy i k a) (hb : Dy j k b) (h : (i + j).natAbs ≤ 2 ^ 53) (hk : k ≤ 1000) : Dy (i + j) k (FP.dadd a b) := by
  obtain ⟨s, c, q, ea⟩ := ha.fin
  obtain ⟨t, d, r, eb⟩ := hb.fin
  unfold Dy at ha hb ⊢
  rw [ea] at ha; rw [eb] at hb
  have w : Whole (i + j) (sh k (exactSum (.fin s c q) (.fin t d r))) := by rw [sh_sum]; exact whole_sum ha hb
  rw [show FP.dadd a b = Core.dadd a b from rfl, val64_dadd, ea, eb]
  exact dy_round w h hk
theorem dy_neg {i : Int} {k : Nat} {a : UInt64} (ha : Dy i k a) : Dy (-i) k (FP.dneg a) := by
  obtain ⟨s, c, q, ea⟩ := ha.fin
  unfold Dy at ha ⊢
  rw [ea] at ha
  rw [FP.val64_dneg, ea]
  exact whole_negate ha
theorem dy_sub {i j : Int} {k : Nat} {a b : UInt64} (ha : Dy i k a) (hb : Dy j k b) (h : (i - j).natAbs ≤ 2 ^ 53) (hk : k ≤ 1000) : Dy (i - j) k (FP.dsub a b) := by
  obtain ⟨s, c, q, ea⟩ := ha.fin
  obtain ⟨t, d, r, eb⟩ := hb.fin
  unfold Dy at ha hb ⊢
  rw [ea] at ha; rw [eb] at hb
  have hb' : Whole (-j) (.fin (!t) d (r + k)) := whole_negate hb
  have w : Whole (i - j) (sh k (exactSum (.fin s c q) (.fin (!t) d r))) := by rw [sh_sum]; exact whole_sum ha hb'
  rw [show FP.dsub a b = Core.dsub a b from rfl, val64_dsub, ea, eb]
  exact dy_round w h hk
theorem dy_mul {i j : Int} {k n : Nat} {a b : UInt64} (ha : Dy i k a) (hb : Dy j n b) (h : (i * j).natAbs ≤ 2 ^ 53) (hk : k + n ≤ 1000) : Dy (i * j) (k + n) (FP.dmul a b) := by
  obtain ⟨s, c, q, ea⟩ := ha.fin
  obtain ⟨t, d, r, eb⟩ := hb.fin
  unfold Dy at ha hb ⊢
  rw [ea] at ha; rw [eb] at hb
  have w : Whole (i * j) (.fin (s != t) (c * d) (q + r + (k + n : Nat))) := by
    have := whole_product ha hb
    rw [show q + r + ((k + n : Nat) : Int) = q + k + (r + n) by omega]; exact this
  rw [show FP.dmul a b = Core.dmul a b from rfl, val64_dmul, ea, eb]
  exact dy_round w h hk
theorem dy_up {i : Int} {k : Nat} {a : UInt64} (n : Nat) (ha : Dy i k a) : Dy (i * (2 ^ n : Nat)) (k + n) a := by
  obtain ⟨s, c, q, ea⟩ := ha.fin
  unfold Dy at ha ⊢
  rw [ea] at ha ⊢
  have ha : signed s (c * 2 ^ (q + k).toNat) = i * ((2 ^ (-(q + k)).toNat : Nat) : Int) := ha
  show signed s (c * 2 ^ (q + (k + n : Nat)).toNat) = i * (2 ^ n : Nat) * ((2 ^ (-(q + (k + n : Nat))).toNat : Nat) : Int)
  have p2 : ((2 ^ (-(q + (k : Int))).toNat : Nat) : Int) ≠ 0 := by have := Nat.two_pow_pos (-(q + (k : Int))).toNat; omega
  have e1 : (q + ((k + n : Nat) : Int)).toNat + (-(q + (k : Int))).toNat = (q + (k : Int)).toNat + (n + (-(q + ((k + n : Nat) : Int))).toNat) := by omega
  rw [signed_mul] at ha ⊢
  refine Int.eq_of_mul_eq_mul_right p2 ?_
  rw [Int.mul_assoc, ← Int.natCast_mul, ← Nat.pow_add, e1, Nat.pow_add, Int.natCast_mul, ← Int.mul_assoc, ha, Nat.pow_add, Int.natCast_mul]
  ac_rfl
theorem dy_cmp {i j : Int} {k : Nat} {a b : UInt64} (ha : Dy i k a) (hb : Dy j k b) : FP.dcmp a b = some (compare i j) := by
  obtain ⟨s, c, q, ea⟩ := ha.fin
  obtain ⟨t, d, r, eb⟩ := hb.fin
  unfold Dy at ha hb
  rw [ea] at ha; rw [eb] at hb
  have w := order_whole ha hb
  show order (val64 a) (val64 b) = _
  rw [ea, eb, ← w]
  have e : min (q + k) (r + k) = min q r + k := by omega
  simp only [order, sh, e, inUnits]
  rw [show q + k - (min q r + k) = q - min q r by omega, show r + k - (min q r + k) = r - min q r by omega]
theorem dy_div {i j t : Int} {k n r : Nat} {a b : UInt64} (ha : Dy i k a) (hb : Dy j n b) (hj : j ≠ 0) (h : i * (2 ^ (n + r) : Nat) = t * j * (2 ^ k : Nat)) (ht : t.natAbs ≤ 2 ^ 53) (hr : r ≤ 1000) : Dy t r (FP.ddiv a b) := by
  obtain ⟨s, c, q, ea⟩ := ha.fin
  obtain ⟨u, d, z, eb⟩ := hb.fin
  unfold Dy at ha hb ⊢
  rw [ea] at ha; rw [eb] at hb
  have ha : Whole i (.fin s c (q + k)) := ha
  have hb : Whole j (.fin u d (z + n)) := hb
  have hd : d ≠ 0 := fun e => hj ((whole_zero hb).mp e)
  rw [show FP.ddiv a b = Core.ddiv a b from rfl, val64_ddiv, ea, eb]
  show Whole t (sh r (if d = 0 then _ else roundRatio b64 (s != u) c d (q - z)))
  rw [if_neg hd]
  have pn : (0 : Int) < ((2 ^ (n + r) : Nat) : Int) := by have := Nat.two_pow_pos (n + r); omega
  have pk : (0 : Int) < ((2 ^ k : Nat) : Int) := by have := Nat.two_pow_pos k; omega
  have hn : i.natAbs * 2 ^ (n + r) = t.natAbs * j.natAbs * 2 ^ k := by
    have := congrArg Int.natAbs h
    rw [Int.natAbs_mul, Int.natAbs_mul, Int.natAbs_mul, Int.natAbs_natCast, Int.natAbs_natCast] at this
    exact this
  have e : roundRatio b64 (s != u) c d (q - z) = roundRatio b64 (s != u) t.natAbs 1 (-(r : Int)) := by
    refine roundRatio_congr (by omega) (by decide) ?_
    have g := ((whole_pe ha).trans (PE.of hn)).trans ((whole_pe hb).symm.mul t.natAbs)
    have g' : PE c (t.natAbs * d) (q - z + r) := g.cast (by omega)
    unfold PE at g'
    rw [show (q - z - -(r : Int)).toNat = (q - z + r).toNat by omega, show (-(r : Int) - (q - z)).toNat = (-(q - z + r)).toNat by omega, Nat.mul_one]
    exact g'
  rw [e]
  refine dy_rnd rfl (fun hz => ?_) ht hr
  have hi : i ≠ 0 := by
    rintro rfl
    rw [Int.zero_mul] at h
    rcases Int.mul_eq_zero.mp h.symm with q | q
    · rcases Int.mul_eq_zero.mp q with q | q
      · exact hz q
      · exact hj q
    · omega
  rw [whole_sign ha hi, whole_sign hb hj]
  have g1 : i < 0 ↔ t * j < 0 := by
    constructor
    · intro q
      have : t * j * ((2 ^ k : Nat) : Int) < 0 := by rw [← h]; exact Int.mul_neg_of_neg_of_pos q pn
      exact Int.lt_of_not_ge fun q' => by have := Int.mul_nonneg q' (Int.le_of_lt pk); omega
    · intro q
      have : i * ((2 ^ (n + r) : Nat) : Int) < 0 := by rw [h]; exact Int.mul_neg_of_neg_of_pos q pk
      exact Int.lt_of_not_ge fun q' => by have := Int.mul_nonneg q' (Int.le_of_lt pn); omega
  rcases Int.lt_or_lt_of_ne hz with ht0 | ht0 <;> rcases Int.lt_or_lt_of_ne hj with hj0 | hj0
  · have q1 := Int.mul_pos_of_neg_of_neg ht0 hj0
    have q2 : ¬ i < 0 := by rw [g1]; omega
    simp [ht0, hj0, q2]
  · have q1 := Int.mul_neg_of_neg_of_pos ht0 hj0
    have q2 : i < 0 := by rw [g1]; exact q1
    have q3 : ¬ j < 0 := by omega
    simp [ht0, q2, q3]
  · have q1 := Int.mul_neg_of_pos_of_neg ht0 hj0
    have q2 : i < 0 := by rw [g1]; exact q1
    have q3 : ¬ t < 0 := by omega
    simp [hj0, q2, q3]
  · have q1 := Int.mul_pos ht0 hj0
    have q2 : ¬ i < 0 := by rw [g1]; omega
    have q3 : ¬ t < 0 := by omega
    have q4 : ¬ j < 0 := by omega
    simp [q2, q3, q4]
theorem dy_eq {i j : Int} {k : Nat} {a b : UInt64} (ha : Dy i k a) (hb : Dy j k b) (h : i = j) : FP.dcmp a b = some .eq := by
  rw [dy_cmp ha hb, h, compare_self_int]
theorem dy_lt {i j : Int} {k : Nat} {a b : UInt64} (ha : Dy i k a) (hb : Dy j k b) (h : i < j) : FP.dcmp a b = some .lt := by
  rw [dy_cmp ha hb, (compare_lt_iff i j).mpr h]
theorem dy_gt {i j : Int} {k : Nat} {a b : UInt64} (ha : Dy i k a) (hb : Dy j k b) (h : j < i) : FP.dcmp a b = some .gt := by
  rw [dy_cmp ha hb, (compare_gt_iff i j).mpr h]
theorem dy_cast {i j : Int} {k n : Nat} {a : UInt64} (h : Dy i k a) (e : i = j) (e' : k = n) : Dy j n a := by subst e e'; exact h
theorem dy_zero : Dy 0 0 (0 : UInt64) := by
  show Whole 0 (sh 0 (val64 0)); rw [val64_zero]
  show signed false (0 * _) = 0 * _
  rw [Nat.zero_mul, Int.zero_mul]; rfl
end Jvm.OwnFP
namespace Jvm.OwnFP
open Jvm.FP Jvm.FP.Core Jvm.Free.Fl
/-! ## numbers with a bound: an int, a long, a double that is i (over 2^k), i at most N -/
def Ib (N : Nat) (i : Int) (x : Int32) : Prop := x.toInt = i ∧ i.natAbs ≤ N
def Lb (N : Nat) (i : Int) (x : Int64) : Prop := x.toInt = i ∧ i.natAbs ≤ N
def Db (N : Nat) (i : Int) (k : Nat) (a : UInt64) : Prop := Dy i k a ∧ i.natAbs ≤ N
theorem Ib.lit (N : Nat) (i : Int) (x : Int32) (h : x.toInt = i ∧ i.natAbs ≤ N := by decide) : Ib N i x := h
theorem Lb.lit (N : Nat) (i : Int) (x : Int64) (h : x.toInt = i ∧ i.natAbs ≤ N := by decide) : Lb N i x := h
theorem Ib.any (x : Int32) : Ib (2 ^ 31) x.toInt x := ⟨rfl, by have := x.toInt_lt; have := x.le_toInt; omega⟩
theorem Ib.cast {N M : Nat} {i j : Int} {x : Int32} (h : Ib N i x) (e : i = j) (g : j.natAbs ≤ M) : Ib M j x := ⟨h.1.trans e, g⟩
theorem Lb.cast {N M : Nat} {i j : Int} {x : Int64} (h : Lb N i x) (e : i = j) (g : j.natAbs ≤ M) : Lb M j x := ⟨h.1.trans e, g⟩
theorem Db.cast {N M : Nat} {i j : Int} {k : Nat} {a : UInt64} (h : Db N i k a) (e : i = j) (g : j.natAbs ≤ M) : Db M j k a := by subst e; exact ⟨h.1, g⟩
theorem bn_add {a b : Int} {N M : Nat} (h1 : a.natAbs ≤ N) (h2 : b.natAbs ≤ M) : (a + b).natAbs ≤ N + M := by omega
theorem bn_sub {a b : Int} {N M : Nat} (h1 : a.natAbs ≤ N) (h2 : b.natAbs ≤ M) : (a - b).natAbs ≤ N + M := by omega
theorem bn_mul {a b : Int} {N M : Nat} (h1 : a.natAbs ≤ N) (h2 : b.natAbs ≤ M) : (a * b).natAbs ≤ N * M := by rw [Int.natAbs_mul]; exact Nat.mul_le_mul h1 h2
section
variable {N M : Nat} {i j : Int} {k n : Nat}
theorem Ib.add {x y : Int32} (h1 : Ib N i x) (h2 : Ib M j y) (h : N + M < 2147483648) : Ib (N + M) (i + j) (x + y) := by
  obtain ⟨rfl, b1⟩ := h1
  obtain ⟨rfl, b2⟩ := h2
  have b := bn_add b1 b2
  exact ⟨Jvm.Free.XT.add32 ⟨by omega, by omega⟩, b⟩
theorem Ib.sub {x y : Int32} (h1 : Ib N i x) (h2 : Ib M j y) (h : N + M < 2147483648) : Ib (N + M) (i - j) (x - y) := by
  obtain ⟨rfl, b1⟩ := h1
  obtain ⟨rfl, b2⟩ := h2
  have b := bn_sub b1 b2
  exact ⟨Jvm.Free.XT.sub32 ⟨by omega, by omega⟩, b⟩
theorem Ib.mul {x y : Int32} (h1 : Ib N i x) (h2 : Ib M j y) (h : N * M < 2147483648) : Ib (N * M) (i * j) (x * y) := by
  obtain ⟨rfl, b1⟩ := h1
  obtain ⟨rfl, b2⟩ := h2
  have b := bn_mul b1 b2
  exact ⟨Jvm.Free.XT.mul32 ⟨by omega, by omega⟩, b⟩
theorem Lb.add {x y : Int64} (h1 : Lb N i x) (h2 : Lb M j y) (h : N + M < 9223372036854775808) : Lb (N + M) (i + j) (x + y) := by
  obtain ⟨rfl, b1⟩ := h1
  obtain ⟨rfl, b2⟩ := h2
  have b := bn_add b1 b2
  exact ⟨Jvm.Free.XT.add64 ⟨by omega, by omega⟩, b⟩
theorem Lb.sub {x y : Int64} (h1 : Lb N i x) (h2 : Lb M j y) (h : N + M < 9223372036854775808) : Lb (N + M) (i - j) (x - y) := by
  obtain ⟨rfl, b1⟩ := h1
  obtain ⟨rfl, b2⟩ := h2
  have b := bn_sub b1 b2
  exact ⟨Jvm.Free.XT.sub64 ⟨by omega, by omega⟩, b⟩
theorem Lb.mul {x y : Int64} (h1 : Lb N i x) (h2 : Lb M j y) (h : N * M < 9223372036854775808) : Lb (N * M) (i * j) (x * y) := by
  obtain ⟨rfl, b1⟩ := h1
  obtain ⟨rfl, b2⟩ := h2
  have b := bn_mul b1 b2
  exact ⟨Jvm.Free.XT.mul64 ⟨by omega, by omega⟩, b⟩
theorem Lb.neg {x : Int64} (h1 : Lb N i x) (h : N < 9223372036854775808) : Lb N (-i) (-x) := by
  obtain ⟨rfl, h2⟩ := h1
  exact ⟨int64_neg (by omega), by omega⟩
theorem Ib.i2l {x : Int32} (h : Ib N i x) : Lb N i x.toInt64 := ⟨(Int32.toInt_toInt64 x).trans h.1, h.2⟩
theorem Lb.l2i {x : Int64} (h : Lb N i x) (hN : N < 2147483648) : Ib N i x.toInt32 := by
  obtain ⟨rfl, h2⟩ := h
  exact ⟨int64_toInt32 (by omega) (by omega), h2⟩
theorem Ib.i2d {x : Int32} (h : Ib N i x) : Db N i 0 (FP.i2d x) := by obtain ⟨rfl, h2⟩ := h; exact ⟨dy_i2d x, h2⟩
theorem Lb.l2d {x : Int64} (h : Lb N i x) (hN : N ≤ 9007199254740992) : Db N i 0 (FP.l2d x) := by obtain ⟨rfl, h2⟩ := h; exact ⟨dy_l2d (Nat.le_trans h2 hN), h2⟩
theorem Db.nn {a : UInt64} (h : Db N i k a) : NoNaN64 a := h.1.nn
theorem Db.add {a b : UInt64} (h1 : Db N i k a) (h2 : Db M j k b) (h : N + M ≤ 9007199254740992 ∧ k ≤ 1000) : Db (N + M) (i + j) k (FP.dadd a b) :=
  ⟨dy_add h1.1 h2.1 (Nat.le_trans (bn_add h1.2 h2.2) h.1) h.2, bn_add h1.2 h2.2⟩
theorem Db.sub {a b : UInt64} (h1 : Db N i k a) (h2 : Db M j k b) (h : N + M ≤ 9007199254740992 ∧ k ≤ 1000) : Db (N + M) (i - j) k (FP.dsub a b) :=
  ⟨dy_sub h1.1 h2.1 (Nat.le_trans (bn_sub h1.2 h2.2) h.1) h.2, bn_sub h1.2 h2.2⟩
theorem Db.mul {a b : UInt64} (h1 : Db N i k a) (h2 : Db M j n b) (h : N * M ≤ 9007199254740992 ∧ k + n ≤ 1000) : Db (N * M) (i * j) (k + n) (FP.dmul a b) :=
  ⟨dy_mul h1.1 h2.1 (Nat.le_trans (bn_mul h1.2 h2.2) h.1) h.2, bn_mul h1.2 h2.2⟩
theorem Db.neg {a : UInt64} (h1 : Db N i k a) : Db N (-i) k (FP.dneg a) := ⟨dy_neg h1.1, by have := h1.2; omega⟩
theorem Db.eq {a b : UInt64} (h1 : Db N i k a) (h2 : Db M j k b) (e : i = j) : FP.dcmp a b = some .eq := dy_eq h1.1 h2.1 e
theorem Db.up {a : UInt64} (h : Db N i k a) (n : Nat) : Db (N * 2 ^ n) (i * (2 ^ n : Nat)) (k + n) a := ⟨dy_up n h.1, by rw [Int.natAbs_mul, Int.natAbs_natCast]; exact Nat.mul_le_mul_right _ h.2⟩
theorem Db.zero : Db 0 0 0 (0 : UInt64) := ⟨dy_zero, Nat.le_refl _⟩
theorem Db.div2 {a b : UInt64} (e : Nat) (h1 : Db N i k a) (h2 : Db M ((2 ^ e : Nat) : Int) 0 b) (h : N ≤ 9007199254740992 ∧ k + e ≤ 1000) : Db N i (k + e) (FP.ddiv a b) := by
  refine ⟨dy_div h1.1 h2.1 (by have := Nat.two_pow_pos e; omega) ?_ (Nat.le_trans h1.2 h.1) h.2, h1.2⟩
  rw [Nat.zero_add, Nat.pow_add, Int.natCast_mul, Int.mul_assoc, Int.mul_comm ((2 ^ k : Nat) : Int)]
theorem Db.lit {a : UInt64} (s : Bool) (c : Nat) (q : Int) (N : Nat) (i : Int) (k : Nat) (e : val64 a = .fin s c q) (w : signed s (c * 2 ^ (q + k).toNat) = i * ((2 ^ (-(q + (k : Int))).toNat : Nat) : Int) ∧ i.natAbs ≤ N) : Db N i k a := by
  refine ⟨?_, w.2⟩
  unfold Dy; rw [e]; exact w.1
theorem Ib.re {x : Int32} (h : Ib N i x) : Ib N x.toInt x := ⟨rfl, by rw [h.1]; exact h.2⟩
theorem Lb.re {x : Int64} (h : Lb N i x) : Lb N x.toInt x := ⟨rfl, by rw [h.1]; exact h.2⟩
theorem Db.weak {M : Nat} {a : UInt64} (h : Db N i k a) (q : N ≤ M) : Db M i k a := ⟨h.1, Nat.le_trans h.2 q⟩
theorem Lb.weak {M : Nat} {a : Int64} (h : Lb N i a) (q : N ≤ M) : Lb M i a := ⟨h.1, Nat.le_trans h.2 q⟩
theorem Ib.weak {M : Nat} {a : Int32} (h : Ib N i a) (q : N ≤ M) : Ib M i a := ⟨h.1, Nat.le_trans h.2 q⟩
end
end Jvm.OwnFP
namespace Jvm.OwnPlain
open Jvm.FP Jvm.FP.Core Jvm.Free.Fl Jvm.OwnFP
theorem own_half_val : val64 4602678819172646912 = .fin false (2 ^ 52) (-53) := by decide +kernel
theorem own_nhalf_val : val64 13826050856027422720 = .fin true (2 ^ 52) (-53) := by decide +kernel
theorem own_half_z : zmag b64 (.fin false (2 ^ 52) (-53)) = 2 ^ 1073 := by
  show 2 ^ 52 * 2 ^ (-53 - b64.qmin).toNat = 2 ^ 1073
  rw [qmin_b64, ← Nat.pow_add]; rfl
/-- the quotient of two whole numbers, the first at most half the second: between nought and a half -/
theorem own_mag {n d : Int64} (hn : 0 ≤ n.toInt) (hd : 0 < d.toInt) (h2 : 2 * n.toInt ≤ d.toInt) (hs : d.toInt ≤ 2 ^ 52) :
    val64 (FP.ddiv (FP.l2d n) (FP.l2d d)) ≠ .nan ∧ 0 ≤ zval b64 (val64 (FP.ddiv (FP.l2d n) (FP.l2d d))) ∧ zval b64 (val64 (FP.ddiv (FP.l2d n) (FP.l2d d))) ≤ 2 ^ 1073 := by
  have wn : Whole n.toInt (val64 (Core.l2d n)) := l2d_int (by omega)
  have wd : Whole d.toInt (val64 (Core.l2d d)) := l2d_int (by omega)
  obtain ⟨c, q, en⟩ := l2d_shape n
  obtain ⟨c', r, ed⟩ := l2d_shape d
  rw [decide_eq_false (by omega)] at en
  rw [decide_eq_false (by omega)] at ed
  rw [en] at wn
  rw [ed] at wd
  have hc : c' ≠ 0 := fun e => by have := (whole_zero wd).mp e; omega
  have ev : val64 (FP.ddiv (FP.l2d n) (FP.l2d d)) = roundRatio b64 false c c' (q - r) := by
    rw [show FP.ddiv (FP.l2d n) (FP.l2d d) = Core.ddiv (Core.l2d n) (Core.l2d d) from rfl, val64_ddiv, en, ed]
    show (if c' = 0 then _ else roundRatio b64 (false != false) c c' (q - r)) = _
    rw [if_neg hc]; rfl
  rw [ev]
  have nn := roundRatio_ne_nan b64 false c c' (q - r)
  have hz : zval b64 (roundRatio b64 false c c' (q - r)) = (zmag b64 (roundRatio b64 false c c' (q - r)) : Int) := by
    unfold zval; rw [sgn_roundRatio]; rfl
  have fitH : Core.fits b64 (.fin false (2 ^ 52) (-53)) := by rw [← own_half_val]; exact val64_fits _
  have le : zmag b64 (roundRatio b64 false c c' (q - r)) ≤ zmag b64 (.fin false (2 ^ 52) (-53)) := by
    obtain ⟨M, hM⟩ : ∃ M : Nat, M = q.natAbs + r.natAbs + 3000 := ⟨_, rfl⟩
    refine zmag_roundRatio_le good_b64 (e0 := -(M : Int)) (by omega) fitH (by simp) (by rw [qmin_b64]; omega) (by omega) ?_
    rw [own_half_z, qmin_b64]
    have p1 : c * 2 ^ (q - r - -(M : Int)).toNat = n.toInt.natAbs * 2 ^ ((M : Int) - r).toNat :=
      (pe_iff (q - r - -(M : Int)).toNat ((M : Int) - r).toNat (by omega)).mp (whole_pe wn)
    have p2 : c' * 2 ^ (M - 1) = d.toInt.natAbs * 2 ^ ((M : Int) - 1 - r).toNat :=
      (pe_iff (M - 1) ((M : Int) - 1 - r).toNat (by omega)).mp (whole_pe wd)
    show c * 2 ^ (q - r - -(M : Int)).toNat ≤ 2 ^ 1073 * 2 ^ (-1074 - -(M : Int)).toNat * c'
    rw [← Nat.pow_add, show 1073 + (-1074 - -(M : Int)).toNat = M - 1 by omega, Nat.mul_comm _ c', p1, p2, show ((M : Int) - r).toNat = 1 + ((M : Int) - 1 - r).toNat by omega, Nat.pow_add, ← Nat.mul_assoc]
    exact Nat.mul_le_mul_right _ (by omega)
  rw [own_half_z] at le
  refine ⟨nn, by omega, ?_⟩
  rw [hz, show (2 : Int) ^ 1073 = ((2 ^ 1073 : Nat) : Int) by rw [Int.natCast_pow]; rfl]
  exact Int.ofNat_le.mpr le
theorem own_zh : zval b64 (val64 4602678819172646912) = 2 ^ 1073 := by
  rw [own_half_val]; show signed false (zmag b64 (.fin false (2 ^ 52) (-53))) = _
  rw [own_half_z, show (2 : Int) ^ 1073 = ((2 ^ 1073 : Nat) : Int) by rw [Int.natCast_pow]; rfl]; rfl
theorem own_znh : zval b64 (val64 13826050856027422720) = -2 ^ 1073 := by
  rw [own_nhalf_val]; show signed true (zmag b64 (.fin true (2 ^ 52) (-53))) = _
  rw [show zmag b64 (.fin true (2 ^ 52) (-53)) = 2 ^ 1073 from own_half_z, show (2 : Int) ^ 1073 = ((2 ^ 1073 : Nat) : Int) by rw [Int.natCast_pow]; rfl]; rfl
theorem own_nn {a : UInt64} (h : val64 a ≠ .nan) : NoNaN64 a := (noNaN64_iff a).mpr ((Core.ne_nan a).mp h)
/-- what the law asks of the quotient E and of -E -/
theorem own_half {n d : Int64} (hn : 0 ≤ n.toInt) (hd : 0 < d.toInt) (h2 : 2 * n.toInt ≤ d.toInt) (hs : d.toInt ≤ 2 ^ 52) {E : UInt64} (hE : E = FP.ddiv (FP.l2d n) (FP.l2d d)) :
    NoNaN64 E ∧ FP.dcmp E E = some .eq ∧ FP.dcmp (FP.dneg E) (FP.dneg E) = some .eq ∧ (FP.dcmp E 4602678819172646912 = some .lt ∨ FP.dcmp E 4602678819172646912 = some .eq) ∧ (FP.dcmp E 13826050856027422720 = some .gt ∨ FP.dcmp E 13826050856027422720 = some .eq) ∧
      (FP.dcmp (FP.dneg E) 4602678819172646912 = some .lt ∨ FP.dcmp (FP.dneg E) 4602678819172646912 = some .eq) ∧ (FP.dcmp (FP.dneg E) 13826050856027422720 = some .gt ∨ FP.dcmp (FP.dneg E) 13826050856027422720 = some .eq) ∧ FP.dneg (FP.dneg E) = E := by
  obtain ⟨nn, z0, z1⟩ := own_mag hn hd h2 hs
  rw [← hE] at nn z0 z1
  have nh : val64 4602678819172646912 ≠ .nan := by rw [own_half_val]; simp
  have nnh : val64 13826050856027422720 ≠ .nan := by rw [own_nhalf_val]; simp
  have nnE : val64 (FP.dneg E) ≠ .nan := by rw [FP.val64_dneg]; exact negate_ne_nan nn
  have zE : zval b64 (val64 (FP.dneg E)) = -zval b64 (val64 E) := by rw [FP.val64_dneg, zval_negate]
  have pp : (0 : Int) < 2 ^ 1073 := by rw [show (2 : Int) ^ 1073 = ((2 ^ 1073 : Nat) : Int) by rw [Int.natCast_pow]; rfl]; exact Int.ofNat_lt.mpr (Nat.two_pow_pos _)
  refine ⟨own_nn nn, dcmp_self nn, dcmp_self nnE, dcmp_le.mpr ⟨nn, nh, ?_⟩, dcmp_ge.mpr ⟨nn, nnh, ?_⟩, dcmp_le.mpr ⟨nnE, nh, ?_⟩, dcmp_ge.mpr ⟨nnE, nnh, ?_⟩, ?_⟩
  · rw [own_zh]; exact z1
  · rw [own_znh]; generalize (2 : Int) ^ 1073 = P at *; omega
  · rw [own_zh, zE]; generalize (2 : Int) ^ 1073 = P at *; omega
  · rw [own_znh, zE]; generalize (2 : Int) ^ 1073 = P at *; omega
  · refine val64_inj (by rw [FP.val64_dneg, FP.val64_dneg, negate_negate]; exact nn) ?_
    rw [FP.val64_dneg, FP.val64_dneg, negate_negate]
theorem own_two : (4611686018427387904 : UInt64) = FP.l2d 2 := by decide +kernel
theorem own_den {a b : Int64} (ha : a.toInt.natAbs ≤ 2 ^ 33) (hb : b.toInt.natAbs ≤ 2 ^ 33) (h : b.toInt < a.toInt) :
    FP.dsub (FP.l2d a) (FP.l2d b) = FP.l2d (a - b) ∧ FP.dmul 4611686018427387904 (FP.dsub (FP.l2d a) (FP.l2d b)) = FP.l2d (2 * (a - b)) ∧ (a - b).toInt = a.toInt - b.toInt ∧ (2 * (a - b)).toInt = 2 * (a.toInt - b.toInt) := by
  have s1 : Small53 a := ⟨by omega, by omega⟩
  have s2 : Small53 b := ⟨by omega, by omega⟩
  have e1 : (a - b).toInt = a.toInt - b.toInt := int64_sub (by omega) (by omega)
  have e3 : (2 : Int64).toInt = 2 := rfl
  have e2 : (2 * (a - b)).toInt = 2 * (a.toInt - b.toInt) := by rw [int64_mul (by rw [e1, e3]; omega) (by rw [e1, e3]; omega), e1, e3]
  have d1 : FP.dsub (FP.l2d a) (FP.l2d b) = FP.l2d (a - b) := dsub_l2d s1 s2
  refine ⟨d1, ?_, e1, e2⟩
  rw [d1, own_two]
  exact dmul_l2d (by unfold Small53; decide) ⟨by omega, by omega⟩ (by decide) (fun q => by rw [q] at e1; have : (0 : Int64).toInt = 0 := rfl; omega) (by rw [e1, e3]; omega) (by rw [e1, e3]; omega)
theorem own_sub {a b : Int64} (ha : a.toInt.natAbs ≤ 2 ^ 33) (hb : b.toInt.natAbs ≤ 2 ^ 33) : FP.dsub (FP.l2d a) (FP.l2d b) = FP.l2d (a - b) ∧ (a - b).toInt = a.toInt - b.toInt :=
  ⟨dsub_l2d ⟨by omega, by omega⟩ ⟨by omega, by omega⟩, int64_sub (by omega) (by omega)⟩
theorem own_cmp {a b : Int64} (ha : a.toInt.natAbs ≤ 2 ^ 33) (hb : b.toInt.natAbs ≤ 2 ^ 33) : FP.dcmp (FP.l2d a) (FP.l2d b) = some (compare a.toInt b.toInt) := dcmp_int (l2d_int (by omega)) (l2d_int (by omega))
theorem own_fin (x : Int64) : NoNaN64 (FP.l2d x) := (fin64_core.mpr (l2d_fin x)).noNaN
theorem own_nnn {a : UInt64} (h : NoNaN64 a) : NoNaN64 (FP.dneg a) := by
  refine own_nn ?_
  rw [FP.val64_dneg]; exact negate_ne_nan ((Core.ne_nan a).mpr ((noNaN64_iff a).mp h))
theorem own_negdiv {a b : UInt64} (h : NoNaN64 (FP.ddiv a b)) : FP.ddiv (FP.dneg a) b = FP.dneg (FP.ddiv a b) := by
  have h' : val64 (FP.ddiv a b) ≠ .nan := (Core.ne_nan _).mpr ((noNaN64_iff _).mp h)
  have e : val64 (FP.ddiv (FP.dneg a) b) = negate (val64 (FP.ddiv a b)) := by
    rw [show FP.ddiv (FP.dneg a) b = Core.ddiv (FP.dneg a) b from rfl, val64_ddiv, FP.val64_dneg, quotient_negate, ← val64_ddiv]
  refine val64_inj (by rw [e]; exact negate_ne_nan h') ?_
  rw [e, FP.val64_dneg]
theorem own_zq {n d : Int64} (hn : n.toInt = 0) (hd : 0 < d.toInt) (hs : d.toInt ≤ 2 ^ 52) : FP.dcmp (FP.ddiv (FP.l2d n) (FP.l2d d)) (FP.dneg (FP.ddiv (FP.l2d n) (FP.l2d d))) = some .eq := by
  have e : Dy 0 0 (FP.ddiv (FP.l2d n) (FP.l2d d)) := dy_div (t := 0) (r := 0) (dy_l2d (by omega)) (dy_l2d (by omega)) (by omega) (by rw [hn]; simp) (by decide) (by decide)
  exact dy_eq e (dy_neg e) (by decide)
end Jvm.OwnPlain
namespace Jvm.OwnPlain
open Jvm.FP Jvm.FP.Core Jvm.Free.Fl Jvm.OwnFP
theorem own_r (x : Int32) : 0 ≤ (x &&& (2147483647 : Int32)).toInt64.toInt ∧ (x &&& (2147483647 : Int32)).toInt64.toInt ≤ 2147483647 := by
  rw [Int32.toInt_toInt64]
  have h := Jvm.RoadKit.c_mask x 2147483647 31 (by decide) (by decide); omega
theorem own_zero_neg : FP.dcmp (0 : UInt64) (FP.dneg 0) = some .eq := by decide +kernel
theorem own_clt {a b : Int} (h : a < b) : compare a b = .lt := (compare_lt_iff a b).mpr h
theorem own_cgt {a b : Int} (h : b < a) : compare a b = .gt := (compare_gt_iff a b).mpr h
theorem own_ceq {a b : Int} (h : a = b) : compare a b = .eq := (compare_eq_iff a b).mpr h
end Jvm.OwnPlain
namespace Jvm.Pilot.@@N@@
open Jvm Jvm.ClassFile Sem Op Lib Jvm.Free Jvm.Stand Jvm.LawKit Jvm.RoadKit Bundle Jvm.Pilot.@@N@@.Jvm.D Jvm.OwnGo
theorem wd {a0 : Array Value} {Z : State} (hw : ∀ d ∈ tables_1, d.before a0 Z = true) (k : Nat) (d : Jvm.Cond) (hd : tables_1[k]? = some d) : d.before a0 Z = true := hw _ (List.mem_of_getElem? hd)
theorem pn_law : plainFor x = true := plainFor_of_name (by show plainName "com/example/lamina3/lamina3/CorrelationPeakFractionPinLaw" = true; first | (simp [plainName, overriddenIn]; done) | decide +kernel)
open Jvm.OwnPlain Jvm.OwnFP
theorem d0_0 : decode jdk_29_method_70_code 0 = .ok (.lload_n 0, 1) := by decide +kernel
theorem d0_1 : decode jdk_29_method_70_code 1 = .ok (.lload_n 2, 1) := by decide +kernel
theorem d0_2 : decode jdk_29_method_70_code 2 = .ok (.lcmp, 1) := by decide +kernel
theorem d0_3 : decode jdk_29_method_70_code 3 = .ok (.ifCond .gt 7, 3) := by decide +kernel
theorem d0_6 : decode jdk_29_method_70_code 6 = .ok (.lload_n 0, 1) := by decide +kernel
theorem d0_7 : decode jdk_29_method_70_code 7 = .ok (.goto 4, 3) := by decide +kernel
theorem d0_10 : decode jdk_29_method_70_code 10 = .ok (.lload_n 2, 1) := by decide +kernel
theorem d0_11 : decode jdk_29_method_70_code 11 = .ok (.lreturn, 1) := by decide +kernel
theorem pd_0 : parseMethodDescriptor "(JJ)J" = some ⟨[.long, .long], some .long⟩ := by decide +kernel
theorem pn_0 : plainFor (⟨"java/lang/Math", "min", "(JJ)J"⟩ : MethodName) = true := by decide +kernel
set_option maxRecDepth 65536 in
set_option maxHeartbeats 40000000 in
theorem rm_min1 (l : Launch) (Z : State) (a0 : Array Value) (hw : ∀ d ∈ tables_1, d.before a0 Z = true) (ws : List Jvm.Cond) (u v : Int64) (h0 : Heap) (n0 : Nat) (Z0 : n0 ≤ h0.size) (hc1 : v < u) :
    Ct l Z (⟨"java/lang/Math", "min", "(JJ)J"⟩ : MethodName) jdk_29_method_70_code 4 (some .long) ws ({ frames := 0, cells := 0, slots := 0, locals := 0 } : Room) #[.long u, .long v] h0 (fun r h L => r = some (.long v) ∧ Fr n0 L ∧ h = h0) := by
  refine Ct.intro pn_0 #[.val (.long u), .second, .val (.long v), .second] (fun _ => by first | (simp [entryFrame, mkF, argsToLocals, Value.category, maxLocals]; done) | rfl) ?_
  intro p e s m below meth c T0 X0 hx hZ hby hml hown hnm hret hlk e0
  have N0 := Fr.nil n0
  refine s_lloadN X0 hx (hb hby d0_0) rfl 1 rfl ?_
  refine s_lloadN X0 hx (hb hby d0_1) rfl 2 rfl ?_
  refine s_lcmp X0 hx (hb hby d0_2) (XT.cmpL u v) rfl 3 rfl ?_
  refine s_ifY X0 hx (hb hby d0_3) (XT.ll_gt_t hc1) 10 (by decide) (by decide) ?_
  refine s_lloadN X0 hx (hb hby d0_10) rfl 11 rfl ?_
  exact retJ X0 hx hlk hret (hb hby d0_11) e0 ⟨rfl, N0, rfl⟩ (by decide) (by decide)
set_option maxRecDepth 65536 in
set_option maxHeartbeats 40000000 in
theorem rm_min0 (l : Launch) (Z : State) (a0 : Array Value) (hw : ∀ d ∈ tables_1, d.before a0 Z = true) (ws : List Jvm.Cond) (u v : Int64) (h0 : Heap) (n0 : Nat) (Z0 : n0 ≤ h0.size) (hc1 : ¬ v < u) :
    Ct l Z (⟨"java/lang/Math", "min", "(JJ)J"⟩ : MethodName) jdk_29_method_70_code 4 (some .long) ws ({ frames := 0, cells := 0, slots := 0, locals := 0 } : Room) #[.long u, .long v] h0 (fun r h L => r = some (.long u) ∧ Fr n0 L ∧ h = h0) := by
  refine Ct.intro pn_0 #[.val (.long u), .second, .val (.long v), .second] (fun _ => by first | (simp [entryFrame, mkF, argsToLocals, Value.category, maxLocals]; done) | rfl) ?_
  intro p e s m below meth c T0 X0 hx hZ hby hml hown hnm hret hlk e0
  have N0 := Fr.nil n0
  refine s_lloadN X0 hx (hb hby d0_0) rfl 1 rfl ?_
  refine s_lloadN X0 hx (hb hby d0_1) rfl 2 rfl ?_
  refine s_lcmp X0 hx (hb hby d0_2) (XT.cmpL u v) rfl 3 rfl ?_
  refine s_ifN X0 hx (hb hby d0_3) (XT.ll_gt_f hc1) 6 rfl ?_
  refine s_lloadN X0 hx (hb hby d0_6) rfl 7 rfl ?_
  refine s_goto X0 hx (hb hby d0_7) 11 (by decide) (by decide) ?_
  exact retJ X0 hx hlk hret (hb hby d0_11) e0 ⟨rfl, N0, rfl⟩ (by decide) (by decide)
theorem d1_0 : decode jdk_29_method_66_code 0 = .ok (.lload_n 0, 1) := by decide +kernel
theorem d1_1 : decode jdk_29_method_66_code 1 = .ok (.lload_n 2, 1) := by decide +kernel
theorem d1_2 : decode jdk_29_method_66_code 2 = .ok (.lcmp, 1) := by decide +kernel
theorem d1_3 : decode jdk_29_method_66_code 3 = .ok (.ifCond .lt 7, 3) := by decide +kernel
theorem d1_6 : decode jdk_29_method_66_code 6 = .ok (.lload_n 0, 1) := by decide +kernel
theorem d1_7 : decode jdk_29_method_66_code 7 = .ok (.goto 4, 3) := by decide +kernel
theorem d1_10 : decode jdk_29_method_66_code 10 = .ok (.lload_n 2, 1) := by decide +kernel
theorem d1_11 : decode jdk_29_method_66_code 11 = .ok (.lreturn, 1) := by decide +kernel
theorem pd_1 : parseMethodDescriptor "(JJ)J" = some ⟨[.long, .long], some .long⟩ := by decide +kernel
theorem pn_1 : plainFor (⟨"java/lang/Math", "max", "(JJ)J"⟩ : MethodName) = true := by decide +kernel
set_option maxRecDepth 65536 in
set_option maxHeartbeats 40000000 in
theorem rm_max1 (l : Launch) (Z : State) (a0 : Array Value) (hw : ∀ d ∈ tables_1, d.before a0 Z = true) (ws : List Jvm.Cond) (u v : Int64) (h0 : Heap) (n0 : Nat) (Z0 : n0 ≤ h0.size) (hc1 : u < v) :
    Ct l Z (⟨"java/lang/Math", "max", "(JJ)J"⟩ : MethodName) jdk_29_method_66_code 4 (some .long) ws ({ frames := 0, cells := 0, slots := 0, locals := 0 } : Room) #[.long u, .long v] h0 (fun r h L => r = some (.long v) ∧ Fr n0 L ∧ h = h0) := by
  refine Ct.intro pn_1 #[.val (.long u), .second, .val (.long v), .second] (fun _ => by first | (simp [entryFrame, mkF, argsToLocals, Value.category, maxLocals]; done) | rfl) ?_
  intro p e s m below meth c T0 X0 hx hZ hby hml hown hnm hret hlk e0
  have N0 := Fr.nil n0
  refine s_lloadN X0 hx (hb hby d1_0) rfl 1 rfl ?_
  refine s_lloadN X0 hx (hb hby d1_1) rfl 2 rfl ?_
  refine s_lcmp X0 hx (hb hby d1_2) (XT.cmpL u v) rfl 3 rfl ?_
  refine s_ifY X0 hx (hb hby d1_3) (XT.ll_lt_t hc1) 10 (by decide) (by decide) ?_
  refine s_lloadN X0 hx (hb hby d1_10) rfl 11 rfl ?_
  exact retJ X0 hx hlk hret (hb hby d1_11) e0 ⟨rfl, N0, rfl⟩ (by decide) (by decide)
set_option maxRecDepth 65536 in
set_option maxHeartbeats 40000000 in
theorem rm_max0 (l : Launch) (Z : State) (a0 : Array Value) (hw : ∀ d ∈ tables_1, d.before a0 Z = true) (ws : List Jvm.Cond) (u v : Int64) (h0 : Heap) (n0 : Nat) (Z0 : n0 ≤ h0.size) (hc1 : ¬ u < v) :
    Ct l Z (⟨"java/lang/Math", "max", "(JJ)J"⟩ : MethodName) jdk_29_method_66_code 4 (some .long) ws ({ frames := 0, cells := 0, slots := 0, locals := 0 } : Room) #[.long u, .long v] h0 (fun r h L => r = some (.long u) ∧ Fr n0 L ∧ h = h0) := by
  refine Ct.intro pn_1 #[.val (.long u), .second, .val (.long v), .second] (fun _ => by first | (simp [entryFrame, mkF, argsToLocals, Value.category, maxLocals]; done) | rfl) ?_
  intro p e s m below meth c T0 X0 hx hZ hby hml hown hnm hret hlk e0
  have N0 := Fr.nil n0
  refine s_lloadN X0 hx (hb hby d1_0) rfl 1 rfl ?_
  refine s_lloadN X0 hx (hb hby d1_1) rfl 2 rfl ?_
  refine s_lcmp X0 hx (hb hby d1_2) (XT.cmpL u v) rfl 3 rfl ?_
  refine s_ifN X0 hx (hb hby d1_3) (XT.ll_lt_f hc1) 6 rfl ?_
  refine s_lloadN X0 hx (hb hby d1_6) rfl 7 rfl ?_
  refine s_goto X0 hx (hb hby d1_7) 11 (by decide) (by decide) ?_
  exact retJ X0 hx hlk hret (hb hby d1_11) e0 ⟨rfl, N0, rfl⟩ (by decide) (by decide)
theorem d2_0 : decode prog_14_method_2_code 0 = .ok (.dconst 0, 1) := by decide +kernel
theorem d2_1 : decode prog_14_method_2_code 1 = .ok (.dstore 6, 2) := by decide +kernel
theorem d2_3 : decode prog_14_method_2_code 3 = .ok (.dload 4, 2) := by decide +kernel
theorem d2_5 : decode prog_14_method_2_code 5 = .ok (.dload_n 0, 1) := by decide +kernel
theorem d2_6 : decode prog_14_method_2_code 6 = .ok (.dcmp .l, 1) := by decide +kernel
theorem d2_7 : decode prog_14_method_2_code 7 = .ok (.ifCond .lt 26, 3) := by decide +kernel
theorem d2_10 : decode prog_14_method_2_code 10 = .ok (.dload_n 2, 1) := by decide +kernel
theorem d2_11 : decode prog_14_method_2_code 11 = .ok (.dload_n 0, 1) := by decide +kernel
theorem d2_12 : decode prog_14_method_2_code 12 = .ok (.dcmp .l, 1) := by decide +kernel
theorem d2_13 : decode prog_14_method_2_code 13 = .ok (.ifCond .le 20, 3) := by decide +kernel
theorem d2_16 : decode prog_14_method_2_code 16 = .ok (.dload 4, 2) := by decide +kernel
theorem d2_18 : decode prog_14_method_2_code 18 = .ok (.dload_n 0, 1) := by decide +kernel
theorem d2_19 : decode prog_14_method_2_code 19 = .ok (.dsub, 1) := by decide +kernel
theorem d2_20 : decode prog_14_method_2_code 20 = .ok (.ldc2_w 7, 3) := by decide +kernel
theorem d2_23 : decode prog_14_method_2_code 23 = .ok (.dload_n 2, 1) := by decide +kernel
theorem d2_24 : decode prog_14_method_2_code 24 = .ok (.dload_n 0, 1) := by decide +kernel
theorem d2_25 : decode prog_14_method_2_code 25 = .ok (.dsub, 1) := by decide +kernel
theorem d2_26 : decode prog_14_method_2_code 26 = .ok (.dmul, 1) := by decide +kernel
theorem d2_27 : decode prog_14_method_2_code 27 = .ok (.ddiv, 1) := by decide +kernel
theorem d2_28 : decode prog_14_method_2_code 28 = .ok (.dstore 6, 2) := by decide +kernel
theorem d2_30 : decode prog_14_method_2_code 30 = .ok (.goto 33, 3) := by decide +kernel
theorem d2_33 : decode prog_14_method_2_code 33 = .ok (.dload_n 0, 1) := by decide +kernel
theorem d2_34 : decode prog_14_method_2_code 34 = .ok (.dload 4, 2) := by decide +kernel
theorem d2_36 : decode prog_14_method_2_code 36 = .ok (.dcmp .l, 1) := by decide +kernel
theorem d2_37 : decode prog_14_method_2_code 37 = .ok (.ifCond .le 26, 3) := by decide +kernel
theorem d2_40 : decode prog_14_method_2_code 40 = .ok (.dload_n 2, 1) := by decide +kernel
theorem d2_41 : decode prog_14_method_2_code 41 = .ok (.dload 4, 2) := by decide +kernel
theorem d2_43 : decode prog_14_method_2_code 43 = .ok (.dcmp .l, 1) := by decide +kernel
theorem d2_44 : decode prog_14_method_2_code 44 = .ok (.ifCond .le 19, 3) := by decide +kernel
theorem d2_47 : decode prog_14_method_2_code 47 = .ok (.dload_n 0, 1) := by decide +kernel
theorem d2_48 : decode prog_14_method_2_code 48 = .ok (.dload 4, 2) := by decide +kernel
theorem d2_50 : decode prog_14_method_2_code 50 = .ok (.dsub, 1) := by decide +kernel
theorem d2_51 : decode prog_14_method_2_code 51 = .ok (.dneg, 1) := by decide +kernel
theorem d2_52 : decode prog_14_method_2_code 52 = .ok (.ldc2_w 7, 3) := by decide +kernel
theorem d2_55 : decode prog_14_method_2_code 55 = .ok (.dload_n 2, 1) := by decide +kernel
theorem d2_56 : decode prog_14_method_2_code 56 = .ok (.dload 4, 2) := by decide +kernel
theorem d2_58 : decode prog_14_method_2_code 58 = .ok (.dsub, 1) := by decide +kernel
theorem d2_59 : decode prog_14_method_2_code 59 = .ok (.dmul, 1) := by decide +kernel
theorem d2_60 : decode prog_14_method_2_code 60 = .ok (.ddiv, 1) := by decide +kernel
theorem d2_61 : decode prog_14_method_2_code 61 = .ok (.dstore 6, 2) := by decide +kernel
theorem d2_63 : decode prog_14_method_2_code 63 = .ok (.dload 6, 2) := by decide +kernel
theorem d2_65 : decode prog_14_method_2_code 65 = .ok (.dreturn, 1) := by decide +kernel
theorem pd_2 : parseMethodDescriptor "(DDD)D" = some ⟨[.double, .double, .double], some .double⟩ := by decide +kernel
theorem pn_2 : plainFor (⟨"com/example/lamina3/lamina3/CorrelationPeak", "fraction", "(DDD)D"⟩ : MethodName) = true := plainFor_of_name (by show plainName "com/example/lamina3/lamina3/CorrelationPeak" = true; first | (simp [plainName, overriddenIn]; done) | decide +kernel)
set_option maxRecDepth 65536 in
set_option maxHeartbeats 40000000 in
theorem rm_fr1 (l : Launch) (Z : State) (a0 : Array Value) (hw : ∀ d ∈ tables_1, d.before a0 Z = true) (ws : List Jvm.Cond) (u v w : UInt64) (h0 : Heap) (n0 : Nat) (Z0 : n0 ≤ h0.size) (hc1 : FP.dcmp w u = some .gt ∨ FP.dcmp w u = some .eq) (hc2 : FP.dcmp v u = some .gt) (n1 : Jvm.Free.Fl.NoNaN64 (FP.dsub w u)) (n2 : Jvm.Free.Fl.NoNaN64 (FP.dsub v u)) (n3 : Jvm.Free.Fl.NoNaN64 (FP.dmul (4611686018427387904 : UInt64) (FP.dsub v u))) (n4 : Jvm.Free.Fl.NoNaN64 (FP.ddiv (FP.dsub w u) (FP.dmul (4611686018427387904 : UInt64) (FP.dsub v u)))) :
    Ct l Z (⟨"com/example/lamina3/lamina3/CorrelationPeak", "fraction", "(DDD)D"⟩ : MethodName) prog_14_method_2_code 8 (some .double) ws ({ frames := 0, cells := 0, slots := 0, locals := 0 } : Room) #[.double u, .double v, .double w] h0 (fun r h L => r = some (.double (FP.ddiv (FP.dsub w u) (FP.dmul (4611686018427387904 : UInt64) (FP.dsub v u)))) ∧ Fr n0 L ∧ h = h0) := by
  refine Ct.intro pn_2 #[.val (.double u), .second, .val (.double v), .second, .val (.double w), .second, .unset, .unset] (fun _ => by first | (simp [entryFrame, mkF, argsToLocals, Value.category, maxLocals]; done) | rfl) ?_
  intro p e s m below meth c T0 X0 hx hZ hby hml hown hnm hret hlk e0
  have N0 := Fr.nil n0
  refine s_dconst0 X0 hx (hb hby d2_0) (0 : UInt64) rfl 1 rfl ?_
  refine s_dstore X0 hx (hb hby d2_1) #[.val (.double u), .second, .val (.double v), .second, .val (.double w), .second, .val (.double (0 : UInt64)), .second] rfl 3 rfl ?_
  refine s_dload X0 hx (hb hby d2_3) rfl 5 rfl ?_
  refine s_dloadN X0 hx (hb hby d2_5) rfl 6 rfl ?_
  refine s_dcmp X0 hx (hb hby d2_6) (cmpValue (FP.dcmp w u) .l) rfl 7 rfl ?_
  refine s_ifN X0 hx (hb hby d2_7) (dd_lt_f hc1) 10 rfl ?_
  refine s_dloadN X0 hx (hb hby d2_10) rfl 11 rfl ?_
  refine s_dloadN X0 hx (hb hby d2_11) rfl 12 rfl ?_
  refine s_dcmp X0 hx (hb hby d2_12) (cmpValue (FP.dcmp v u) .l) rfl 13 rfl ?_
  refine s_ifN X0 hx (hb hby d2_13) (dd_le_f hc2) 16 rfl ?_
  refine s_dload X0 hx (hb hby d2_16) rfl 18 rfl ?_
  refine s_dloadN X0 hx (hb hby d2_18) rfl 19 rfl ?_
  refine s_dsub X0 hx (hb hby d2_19) (FP.dsub w u) rfl n1 20 rfl ?_
  refine s_ldc2D X0 hx (hb hby d2_20) hZ hown (wd hw 12 _ rfl) 23 rfl ?_
  refine s_dloadN X0 hx (hb hby d2_23) rfl 24 rfl ?_
  refine s_dloadN X0 hx (hb hby d2_24) rfl 25 rfl ?_
  refine s_dsub X0 hx (hb hby d2_25) (FP.dsub v u) rfl n2 26 rfl ?_
  refine s_dmul X0 hx (hb hby d2_26) (FP.dmul (4611686018427387904 : UInt64) (FP.dsub v u)) rfl n3 27 rfl ?_
  refine s_ddiv X0 hx (hb hby d2_27) (FP.ddiv (FP.dsub w u) (FP.dmul (4611686018427387904 : UInt64) (FP.dsub v u))) rfl n4 28 rfl ?_
  refine s_dstore X0 hx (hb hby d2_28) #[.val (.double u), .second, .val (.double v), .second, .val (.double w), .second, .val (.double (FP.ddiv (FP.dsub w u) (FP.dmul (4611686018427387904 : UInt64) (FP.dsub v u)))), .second] rfl 30 rfl ?_
  refine s_goto X0 hx (hb hby d2_30) 63 (by decide) (by decide) ?_
  refine s_dload X0 hx (hb hby d2_63) rfl 65 rfl ?_
  exact retD X0 hx hlk hret (hb hby d2_65) e0 ⟨rfl, N0, rfl⟩ (by decide) (by decide)
set_option maxRecDepth 65536 in
set_option maxHeartbeats 40000000 in
theorem rm_fr2 (l : Launch) (Z : State) (a0 : Array Value) (hw : ∀ d ∈ tables_1, d.before a0 Z = true) (ws : List Jvm.Cond) (u v w : UInt64) (h0 : Heap) (n0 : Nat) (Z0 : n0 ≤ h0.size) (hc1 : FP.dcmp w u = some .lt) (hc2 : FP.dcmp u w = some .gt) (hc3 : FP.dcmp v w = some .gt) (n1 : Jvm.Free.Fl.NoNaN64 (FP.dsub u w)) (n2 : Jvm.Free.Fl.NoNaN64 (FP.dsub v w)) (n3 : Jvm.Free.Fl.NoNaN64 (FP.dmul (4611686018427387904 : UInt64) (FP.dsub v w))) (n4 : Jvm.Free.Fl.NoNaN64 (FP.ddiv (FP.dneg (FP.dsub u w)) (FP.dmul (4611686018427387904 : UInt64) (FP.dsub v w)))) :
    Ct l Z (⟨"com/example/lamina3/lamina3/CorrelationPeak", "fraction", "(DDD)D"⟩ : MethodName) prog_14_method_2_code 8 (some .double) ws ({ frames := 0, cells := 0, slots := 0, locals := 0 } : Room) #[.double u, .double v, .double w] h0 (fun r h L => r = some (.double (FP.ddiv (FP.dneg (FP.dsub u w)) (FP.dmul (4611686018427387904 : UInt64) (FP.dsub v w)))) ∧ Fr n0 L ∧ h = h0) := by
  refine Ct.intro pn_2 #[.val (.double u), .second, .val (.double v), .second, .val (.double w), .second, .unset, .unset] (fun _ => by first | (simp [entryFrame, mkF, argsToLocals, Value.category, maxLocals]; done) | rfl) ?_
  intro p e s m below meth c T0 X0 hx hZ hby hml hown hnm hret hlk e0
  have N0 := Fr.nil n0
  refine s_dconst0 X0 hx (hb hby d2_0) (0 : UInt64) rfl 1 rfl ?_
  refine s_dstore X0 hx (hb hby d2_1) #[.val (.double u), .second, .val (.double v), .second, .val (.double w), .second, .val (.double (0 : UInt64)), .second] rfl 3 rfl ?_
  refine s_dload X0 hx (hb hby d2_3) rfl 5 rfl ?_
  refine s_dloadN X0 hx (hb hby d2_5) rfl 6 rfl ?_
  refine s_dcmp X0 hx (hb hby d2_6) (cmpValue (FP.dcmp w u) .l) rfl 7 rfl ?_
  refine s_ifY X0 hx (hb hby d2_7) (dd_lt_t hc1) 33 (by decide) (by decide) ?_
  refine s_dloadN X0 hx (hb hby d2_33) rfl 34 rfl ?_
  refine s_dload X0 hx (hb hby d2_34) rfl 36 rfl ?_
  refine s_dcmp X0 hx (hb hby d2_36) (cmpValue (FP.dcmp u w) .l) rfl 37 rfl ?_
  refine s_ifN X0 hx (hb hby d2_37) (dd_le_f hc2) 40 rfl ?_
  refine s_dloadN X0 hx (hb hby d2_40) rfl 41 rfl ?_
  refine s_dload X0 hx (hb hby d2_41) rfl 43 rfl ?_
  refine s_dcmp X0 hx (hb hby d2_43) (cmpValue (FP.dcmp v w) .l) rfl 44 rfl ?_
  refine s_ifN X0 hx (hb hby d2_44) (dd_le_f hc3) 47 rfl ?_
  refine s_dloadN X0 hx (hb hby d2_47) rfl 48 rfl ?_
  refine s_dload X0 hx (hb hby d2_48) rfl 50 rfl ?_
  refine s_dsub X0 hx (hb hby d2_50) (FP.dsub u w) rfl n1 51 rfl ?_
  refine s_dneg X0 hx (hb hby d2_51) (FP.dneg (FP.dsub u w)) rfl 52 rfl ?_
  refine s_ldc2D X0 hx (hb hby d2_52) hZ hown (wd hw 12 _ rfl) 55 rfl ?_
  refine s_dloadN X0 hx (hb hby d2_55) rfl 56 rfl ?_
  refine s_dload X0 hx (hb hby d2_56) rfl 58 rfl ?_
  refine s_dsub X0 hx (hb hby d2_58) (FP.dsub v w) rfl n2 59 rfl ?_
  refine s_dmul X0 hx (hb hby d2_59) (FP.dmul (4611686018427387904 : UInt64) (FP.dsub v w)) rfl n3 60 rfl ?_
  refine s_ddiv X0 hx (hb hby d2_60) (FP.ddiv (FP.dneg (FP.dsub u w)) (FP.dmul (4611686018427387904 : UInt64) (FP.dsub v w))) rfl n4 61 rfl ?_
  refine s_dstore X0 hx (hb hby d2_61) #[.val (.double u), .second, .val (.double v), .second, .val (.double w), .second, .val (.double (FP.ddiv (FP.dneg (FP.dsub u w)) (FP.dmul (4611686018427387904 : UInt64) (FP.dsub v w)))), .second] rfl 63 rfl ?_
  refine s_dload X0 hx (hb hby d2_63) rfl 65 rfl ?_
  exact retD X0 hx hlk hret (hb hby d2_65) e0 ⟨rfl, N0, rfl⟩ (by decide) (by decide)
set_option maxRecDepth 65536 in
set_option maxHeartbeats 40000000 in
theorem rm_fr3 (l : Launch) (Z : State) (a0 : Array Value) (hw : ∀ d ∈ tables_1, d.before a0 Z = true) (ws : List Jvm.Cond) (u v w : UInt64) (h0 : Heap) (n0 : Nat) (Z0 : n0 ≤ h0.size) (hc1 : FP.dcmp w u = some .eq) (hc2 : FP.dcmp v u = some .eq) (hc3 : FP.dcmp u w = some .eq) :
    Ct l Z (⟨"com/example/lamina3/lamina3/CorrelationPeak", "fraction", "(DDD)D"⟩ : MethodName) prog_14_method_2_code 8 (some .double) ws ({ frames := 0, cells := 0, slots := 0, locals := 0 } : Room) #[.double u, .double v, .double w] h0 (fun r h L => r = some (.double (0 : UInt64)) ∧ Fr n0 L ∧ h = h0) := by
  refine Ct.intro pn_2 #[.val (.double u), .second, .val (.double v), .second, .val (.double w), .second, .unset, .unset] (fun _ => by first | (simp [entryFrame, mkF, argsToLocals, Value.category, maxLocals]; done) | rfl) ?_
  intro p e s m below meth c T0 X0 hx hZ hby hml hown hnm hret hlk e0
  have N0 := Fr.nil n0
  refine s_dconst0 X0 hx (hb hby d2_0) (0 : UInt64) rfl 1 rfl ?_
  refine s_dstore X0 hx (hb hby d2_1) #[.val (.double u), .second, .val (.double v), .second, .val (.double w), .second, .val (.double (0 : UInt64)), .second] rfl 3 rfl ?_
  refine s_dload X0 hx (hb hby d2_3) rfl 5 rfl ?_
  refine s_dloadN X0 hx (hb hby d2_5) rfl 6 rfl ?_
  refine s_dcmp X0 hx (hb hby d2_6) (cmpValue (FP.dcmp w u) .l) rfl 7 rfl ?_
  refine s_ifN X0 hx (hb hby d2_7) (dd_lt_f (Or.inr hc1)) 10 rfl ?_
  refine s_dloadN X0 hx (hb hby d2_10) rfl 11 rfl ?_
  refine s_dloadN X0 hx (hb hby d2_11) rfl 12 rfl ?_
  refine s_dcmp X0 hx (hb hby d2_12) (cmpValue (FP.dcmp v u) .l) rfl 13 rfl ?_
  refine s_ifY X0 hx (hb hby d2_13) (dd_le_t (by rw [hc2]; decide)) 33 (by decide) (by decide) ?_
  refine s_dloadN X0 hx (hb hby d2_33) rfl 34 rfl ?_
  refine s_dload X0 hx (hb hby d2_34) rfl 36 rfl ?_
  refine s_dcmp X0 hx (hb hby d2_36) (cmpValue (FP.dcmp u w) .l) rfl 37 rfl ?_
  refine s_ifY X0 hx (hb hby d2_37) (dd_le_t (by rw [hc3]; decide)) 63 (by decide) (by decide) ?_
  refine s_dload X0 hx (hb hby d2_63) rfl 65 rfl ?_
  exact retD X0 hx hlk hret (hb hby d2_65) e0 ⟨rfl, N0, rfl⟩ (by decide) (by decide)
set_option maxRecDepth 65536 in
set_option maxHeartbeats 40000000 in
theorem rm_law (l : Launch) (Z : State) (a0 : Array Value) (hw : ∀ d ∈ tables_1, d.before a0 Z = true) (ws : List Jvm.Cond) (i0 i1 i2 : Int32) (h0 : Heap) (n0 : Nat) (Z0 : n0 ≤ h0.size)  :
    Ct l Z x code maxLocals ret ws room_1 #[.int i0, .int i1, .int i2] h0 (fun v h L => v = some (.int 1) ∧ Fr n0 L) := by
  refine Ct.intro pn_law #[.val (.int i0), .val (.int i1), .val (.int i2), .unset, .unset, .unset, .unset, .unset, .unset, .unset, .unset, .unset, .unset, .unset, .unset, .unset, .unset, .unset, .unset, .unset, .unset] (fun _ => by first | (simp [entryFrame, mkF, argsToLocals, Value.category, maxLocals]; done) | rfl) ?_
  intro p e s m below meth c T0 X0 hx hZ hby hml hown hnm hret hlk e0
  have N0 := Fr.nil n0
  refine s_iloadN X0 hx (hb hby at_0) rfl 1 rfl ?_
  refine s_i2l X0 hx (hb hby at_1) i0.toInt64 rfl 2 rfl ?_
  obtain ⟨b1, h_b1⟩ : ∃ v, v = i0.toInt64 := ⟨_, rfl⟩
  refine s_lstoreN X0 hx (hb hby at_2) #[.val (.int i0), .val (.int i1), .val (.int i2), .val (.long b1), .second, .unset, .unset, .unset, .unset, .unset, .unset, .unset, .unset, .unset, .unset, .unset, .unset, .unset, .unset, .unset, .unset] (by rw [h_b1]; rfl) 3 rfl ?_
  refine s_iloadN X0 hx (hb hby at_3) rfl 4 rfl ?_
  refine s_i2l X0 hx (hb hby at_4) i1.toInt64 rfl 5 rfl ?_
  obtain ⟨c1, h_c1⟩ : ∃ v, v = i1.toInt64 := ⟨_, rfl⟩
  refine s_lstore X0 hx (hb hby at_5) #[.val (.int i0), .val (.int i1), .val (.int i2), .val (.long b1), .second, .val (.long c1), .second, .unset, .unset, .unset, .unset, .unset, .unset, .unset, .unset, .unset, .unset, .unset, .unset, .unset, .unset] (by rw [h_c1]; rfl) 7 rfl ?_
  have bb : b1.toInt.natAbs ≤ 2 ^ 31 := by rw [h_b1, Int32.toInt_toInt64]; have := i0.toInt_lt; have := i0.le_toInt; omega
  have bc : c1.toInt.natAbs ≤ 2 ^ 31 := by rw [h_c1, Int32.toInt_toInt64]; have := i1.toInt_lt; have := i1.le_toInt; omega
  by_cases hbc : c1 < b1
  · skip
    have ibc : c1.toInt < b1.toInt := Int64.lt_iff_toInt_lt.mp hbc
    refine s_lloadN X0 hx (hb hby at_7) rfl 8 rfl ?_
    refine s_lload X0 hx (hb hby at_8) rfl 10 rfl ?_
    obtain ⟨v1, T1, L1, X1, hQ1, st1⟩ := callStat X0 hx hZ hown (wd hw 0 _ rfl) (wd hw 1 _ rfl) (wd hw 2 _ rfl) (wd hw 3 _ rfl) (by decide) (rm_min1 l Z a0 hw [] b1 c1 h0 n0 Z0 hbc) e0 (L := #[.val (.int i0), .val (.int i1), .val (.int i2), .val (.long b1), .second, .val (.long c1), .second, .unset, .unset, .unset, .unset, .unset, .unset, .unset, .unset, .unset, .unset, .unset, .unset, .unset, .unset]) (hb hby at_10) (by rw [hml]; rfl) [.long b1, .long c1] [] rfl rfl pd_0 rfl 0 (by show 2 * 0 + _ ≤ _; exact Nat.le_of_eq rfl) (by decide) (by decide) (by decide) (by decide)
    obtain ⟨rfl, N1, hh1⟩ := hQ1
    have M1 := Fr.app N0 N1
    refine Go.via st1 ?_
    show Go p e below _ (T1.setTop (mkF m 13 #[.val (.int i0), .val (.int i1), .val (.int i2), .val (.long b1), .second, .val (.long c1), .second, .unset, .unset, .unset, .unset, .unset, .unset, .unset, .unset, .unset, .unset, .unset, .unset, .unset, .unset] [.long c1]))
    refine s_lstore X1 hx (hb hby at_13) #[.val (.int i0), .val (.int i1), .val (.int i2), .val (.long b1), .second, .val (.long c1), .second, .val (.long c1), .second, .unset, .unset, .unset, .unset, .unset, .unset, .unset, .unset, .unset, .unset, .unset, .unset] rfl 15 rfl ?_
    refine s_lloadN X1 hx (hb hby at_15) rfl 16 rfl ?_
    refine s_lload X1 hx (hb hby at_16) rfl 18 rfl ?_
    obtain ⟨v2, T2, L2, X2, hQ2, st2⟩ := callStat X1 hx hZ hown (wd hw 4 _ rfl) (wd hw 5 _ rfl) (wd hw 2 _ rfl) (wd hw 6 _ rfl) (by decide) (rm_max0 l Z a0 hw [] b1 c1 h0 n0 Z0 (fun q => absurd (Int64.lt_iff_toInt_lt.mp q) (by omega))) hh1 (L := #[.val (.int i0), .val (.int i1), .val (.int i2), .val (.long b1), .second, .val (.long c1), .second, .val (.long c1), .second, .unset, .unset, .unset, .unset, .unset, .unset, .unset, .unset, .unset, .unset, .unset, .unset]) (hb hby at_18) (by rw [hml]; rfl) [.long b1, .long c1] [] rfl rfl pd_1 rfl 0 (by show 2 * 0 + _ ≤ _; exact Nat.le_of_eq rfl) (by decide) (by decide) (by decide) (by decide)
    obtain ⟨rfl, N2, hh2⟩ := hQ2
    have M2 := Fr.app M1 N2
    refine Go.via st2 ?_
    show Go p e below _ (T2.setTop (mkF m 21 #[.val (.int i0), .val (.int i1), .val (.int i2), .val (.long b1), .second, .val (.long c1), .second, .val (.long c1), .second, .unset, .unset, .unset, .unset, .unset, .unset, .unset, .unset, .unset, .unset, .unset, .unset] [.long b1]))
    refine s_lstore X2 hx (hb hby at_21) #[.val (.int i0), .val (.int i1), .val (.int i2), .val (.long b1), .second, .val (.long c1), .second, .val (.long c1), .second, .val (.long b1), .second, .unset, .unset, .unset, .unset, .unset, .unset, .unset, .unset, .unset, .unset] rfl 23 rfl ?_
    refine s_lload X2 hx (hb hby at_23) rfl 25 rfl ?_
    refine s_iloadN X2 hx (hb hby at_25) rfl 26 rfl ?_
    refine s_ldcI X2 hx (hb hby at_26) hZ hown (wd hw 7 _ rfl) 28 rfl ?_
    refine s_iand X2 hx (hb hby at_28) (i2 &&& (2147483647 : Int32)) rfl 29 rfl ?_
    refine s_i2l X2 hx (hb hby at_29) ((i2 &&& (2147483647 : Int32)).toInt64) rfl 30 rfl ?_
    refine s_ladd X2 hx (hb hby at_30) (b1 + (i2 &&& (2147483647 : Int32)).toInt64) rfl 31 rfl ?_
    obtain ⟨a1, h_a1⟩ : ∃ v, v = (b1 + (i2 &&& (2147483647 : Int32)).toInt64) := ⟨_, rfl⟩
    refine s_lstore X2 hx (hb hby at_31) #[.val (.int i0), .val (.int i1), .val (.int i2), .val (.long b1), .second, .val (.long c1), .second, .val (.long c1), .second, .val (.long b1), .second, .val (.long a1), .second, .unset, .unset, .unset, .unset, .unset, .unset, .unset, .unset] (by rw [h_a1]; rfl) 33 rfl ?_
    have ba : b1.toInt ≤ a1.toInt ∧ a1.toInt ≤ b1.toInt + 2147483647 := by
      have hr := own_r i2
      rw [h_a1, Jvm.FP.Core.int64_add (by omega) (by omega)]; omega
    have ba2 : a1.toInt.natAbs ≤ 2 ^ 33 := by omega
    obtain ⟨es, em, ei, ej⟩ := own_den (a := a1) (b := c1) ba2 (by omega) (by omega)
    obtain ⟨eb, ek⟩ := own_sub (a := b1) (b := c1) (by omega) (by omega)
    obtain ⟨E, hE⟩ : ∃ E, E = FP.ddiv (FP.l2d (b1 - c1)) (FP.l2d (2 * (a1 - c1))) := ⟨_, rfl⟩
    have hh := own_half (n := b1 - c1) (d := 2 * (a1 - c1)) (by omega) (by omega) (by omega) (by omega) hE
    have nnE : FP.ddiv (FP.dneg (FP.l2d (b1 - c1))) (FP.l2d (2 * (a1 - c1))) = FP.dneg E := by rw [own_negdiv (by rw [← hE]; exact hh.1), ← hE]
    have k1 := own_cmp (a := c1) (b := b1) (by omega) (by omega)
    have k2 := own_cmp (a := b1) (b := c1) (by omega) (by omega)
    have k3 := own_cmp (a := a1) (b := c1) ba2 (by omega)
    rw [own_clt (by omega)] at k1
    rw [own_cgt (by omega)] at k2
    rw [own_cgt (by omega)] at k3
    refine s_lloadN X2 hx (hb hby at_33) rfl 34 rfl ?_
    refine s_l2d X2 hx (hb hby at_34) (FP.l2d b1) rfl 35 rfl ?_
    refine s_lload X2 hx (hb hby at_35) rfl 37 rfl ?_
    refine s_l2d X2 hx (hb hby at_37) (FP.l2d a1) rfl 38 rfl ?_
    refine s_lload X2 hx (hb hby at_38) rfl 40 rfl ?_
    refine s_l2d X2 hx (hb hby at_40) (FP.l2d c1) rfl 41 rfl ?_
    obtain ⟨v3, T3, L3, X3, hQ3, st3⟩ := callStat X2 hx hZ hown (wd hw 8 _ rfl) (wd hw 9 _ rfl) (wd hw 10 _ rfl) (wd hw 11 _ rfl) (by decide) (rm_fr2 l Z a0 hw [] (FP.l2d b1) (FP.l2d a1) (FP.l2d c1) h0 n0 Z0 k1 k2 k3 (by rw [eb]; exact own_fin _) (by rw [es]; exact own_fin _) (by rw [em]; exact own_fin _) (by rw [eb, em, nnE]; exact own_nnn hh.1)) hh2 (L := #[.val (.int i0), .val (.int i1), .val (.int i2), .val (.long b1), .second, .val (.long c1), .second, .val (.long c1), .second, .val (.long b1), .second, .val (.long a1), .second, .unset, .unset, .unset, .unset, .unset, .unset, .unset, .unset]) (hb hby at_41) (by rw [hml]; rfl) [.double (FP.l2d b1), .double (FP.l2d a1), .double (FP.l2d c1)] [] rfl rfl pd_2 rfl 0 (by show 2 * 0 + _ ≤ _; exact Nat.le_of_eq rfl) (by decide) (by decide) (by decide) (by decide)
    obtain ⟨hv3, N3, hh3⟩ := hQ3
    rw [show FP.ddiv (FP.dneg (FP.dsub (FP.l2d b1) (FP.l2d c1))) (FP.dmul (4611686018427387904 : UInt64) (FP.dsub (FP.l2d a1) (FP.l2d c1))) = (FP.dneg E) from by rw [eb, em, nnE]] at hv3
    subst hv3
    have M3 := Fr.app M2 N3
    refine Go.via st3 ?_
    show Go p e below _ (T3.setTop (mkF m 44 #[.val (.int i0), .val (.int i1), .val (.int i2), .val (.long b1), .second, .val (.long c1), .second, .val (.long c1), .second, .val (.long b1), .second, .val (.long a1), .second, .unset, .unset, .unset, .unset, .unset, .unset, .unset, .unset] [.double (FP.dneg E)]))
    refine s_dstore X3 hx (hb hby at_44) #[.val (.int i0), .val (.int i1), .val (.int i2), .val (.long b1), .second, .val (.long c1), .second, .val (.long c1), .second, .val (.long b1), .second, .val (.long a1), .second, .val (.double (FP.dneg E)), .second, .unset, .unset, .unset, .unset, .unset, .unset] rfl 46 rfl ?_
    refine s_lload X3 hx (hb hby at_46) rfl 48 rfl ?_
    refine s_l2d X3 hx (hb hby at_48) (FP.l2d c1) rfl 49 rfl ?_
    refine s_lload X3 hx (hb hby at_49) rfl 51 rfl ?_
    refine s_l2d X3 hx (hb hby at_51) (FP.l2d a1) rfl 52 rfl ?_
    refine s_lloadN X3 hx (hb hby at_52) rfl 53 rfl ?_
    refine s_l2d X3 hx (hb hby at_53) (FP.l2d b1) rfl 54 rfl ?_
    obtain ⟨v4, T4, L4, X4, hQ4, st4⟩ := callStat X3 hx hZ hown (wd hw 8 _ rfl) (wd hw 9 _ rfl) (wd hw 10 _ rfl) (wd hw 11 _ rfl) (by decide) (rm_fr1 l Z a0 hw [] (FP.l2d c1) (FP.l2d a1) (FP.l2d b1) h0 n0 Z0 (Or.inl k2) k3 (by rw [eb]; exact own_fin _) (by rw [es]; exact own_fin _) (by rw [em]; exact own_fin _) (by rw [eb, em, ← hE]; exact hh.1)) hh3 (L := #[.val (.int i0), .val (.int i1), .val (.int i2), .val (.long b1), .second, .val (.long c1), .second, .val (.long c1), .second, .val (.long b1), .second, .val (.long a1), .second, .val (.double (FP.dneg E)), .second, .unset, .unset, .unset, .unset, .unset, .unset]) (hb hby at_54) (by rw [hml]; rfl) [.double (FP.l2d c1), .double (FP.l2d a1), .double (FP.l2d b1)] [] rfl rfl pd_2 rfl 0 (by show 2 * 0 + _ ≤ _; exact Nat.le_of_eq rfl) (by decide) (by decide) (by decide) (by decide)
    obtain ⟨hv4, N4, hh4⟩ := hQ4
    rw [show FP.ddiv (FP.dsub (FP.l2d b1) (FP.l2d c1)) (FP.dmul (4611686018427387904 : UInt64) (FP.dsub (FP.l2d a1) (FP.l2d c1))) = E from by rw [eb, em, ← hE]] at hv4
    subst hv4
    have M4 := Fr.app M3 N4
    refine Go.via st4 ?_
    show Go p e below _ (T4.setTop (mkF m 57 #[.val (.int i0), .val (.int i1), .val (.int i2), .val (.long b1), .second, .val (.long c1), .second, .val (.long c1), .second, .val (.long b1), .second, .val (.long a1), .second, .val (.double (FP.dneg E)), .second, .unset, .unset, .unset, .unset, .unset, .unset] [.double E]))
    refine s_dstore X4 hx (hb hby at_57) #[.val (.int i0), .val (.int i1), .val (.int i2), .val (.long b1), .second, .val (.long c1), .second, .val (.long c1), .second, .val (.long b1), .second, .val (.long a1), .second, .val (.double (FP.dneg E)), .second, .val (.double E), .second, .unset, .unset, .unset, .unset] rfl 59 rfl ?_
    refine s_ldc2J X4 hx (hb hby at_59) hZ hown (wd hw 13 _ rfl) 62 rfl ?_
    refine s_lload X4 hx (hb hby at_62) rfl 64 rfl ?_
    refine s_lload X4 hx (hb hby at_64) rfl 66 rfl ?_
    refine s_lsub X4 hx (hb hby at_66) (a1 - c1) rfl 67 rfl ?_
    refine s_lmul X4 hx (hb hby at_67) ((2 : Int64) * (a1 - c1)) rfl 68 rfl ?_
    refine s_lstore X4 hx (hb hby at_68) #[.val (.int i0), .val (.int i1), .val (.int i2), .val (.long b1), .second, .val (.long c1), .second, .val (.long c1), .second, .val (.long b1), .second, .val (.long a1), .second, .val (.double (FP.dneg E)), .second, .val (.double E), .second, .val (.long ((2 : Int64) * (a1 - c1))), .second, .unset, .unset] rfl 70 rfl ?_
    refine s_lload X4 hx (hb hby at_70) rfl 72 rfl ?_
    refine s_lconst X4 hx (hb hby at_72) (0 : Int64) rfl 73 rfl ?_
    refine s_lcmp X4 hx (hb hby at_73) (XT.cmpL ((2 : Int64) * (a1 - c1)) (0 : Int64)) rfl 74 rfl ?_
    refine s_ifY X4 hx (hb hby at_74) (XT.ll_ne_t (fun q => by rw [q] at ej; have : (0 : Int64).toInt = 0 := rfl; omega)) 83 (by decide) (by decide) ?_
    refine s_lload X4 hx (hb hby at_83) rfl 85 rfl ?_
    refine s_lloadN X4 hx (hb hby at_85) rfl 86 rfl ?_
    refine s_lcmp X4 hx (hb hby at_86) (XT.cmpL c1 b1) rfl 87 rfl ?_
    refine s_ifY X4 hx (hb hby at_87) (XT.ll_lt_t hbc) 104 (by decide) (by decide) ?_
    refine s_lloadN X4 hx (hb hby at_104) rfl 105 rfl ?_
    refine s_lload X4 hx (hb hby at_105) rfl 107 rfl ?_
    refine s_lsub X4 hx (hb hby at_107) (b1 - c1) rfl 108 rfl ?_
    refine s_l2d X4 hx (hb hby at_108) (FP.l2d (b1 - c1)) rfl 109 rfl ?_
    refine s_lload X4 hx (hb hby at_109) rfl 111 rfl ?_
    refine s_l2d X4 hx (hb hby at_111) (FP.l2d ((2 : Int64) * (a1 - c1))) rfl 112 rfl ?_
    refine s_ddiv X4 hx (hb hby at_112) (FP.ddiv (FP.l2d (b1 - c1)) (FP.l2d ((2 : Int64) * (a1 - c1)))) rfl (by rw [← hE]; exact hh.1) 113 rfl ?_
    refine s_dneg X4 hx (hb hby at_113) (FP.dneg (FP.ddiv (FP.l2d (b1 - c1)) (FP.l2d ((2 : Int64) * (a1 - c1))))) rfl 114 rfl ?_
    refine s_dstore X4 hx (hb hby at_114) #[.val (.int i0), .val (.int i1), .val (.int i2), .val (.long b1), .second, .val (.long c1), .second, .val (.long c1), .second, .val (.long b1), .second, .val (.long a1), .second, .val (.double (FP.dneg E)), .second, .val (.double E), .second, .val (.long ((2 : Int64) * (a1 - c1))), .second, .val (.double (FP.dneg (FP.ddiv (FP.l2d (b1 - c1)) (FP.l2d ((2 : Int64) * (a1 - c1)))))), .second] rfl 116 rfl ?_
    refine s_dload X4 hx (hb hby at_116) rfl 118 rfl ?_
    refine s_dload X4 hx (hb hby at_118) rfl 120 rfl ?_
    refine s_dcmp X4 hx (hb hby at_120) (0 : Int32) (by rw [show FP.dcmp (FP.dneg E) (FP.dneg (FP.ddiv (FP.l2d (b1 - c1)) (FP.l2d ((2 : Int64) * (a1 - c1))))) = some .eq from (by rw [← hE]; exact hh.2.2.1)]; rfl) 121 rfl ?_
    refine s_ifN X4 hx (hb hby at_121) (by decide) 124 rfl ?_
    refine s_dload X4 hx (hb hby at_124) rfl 126 rfl ?_
    refine s_dload X4 hx (hb hby at_126) rfl 128 rfl ?_
    refine s_dneg X4 hx (hb hby at_128) (FP.dneg (FP.dneg (FP.ddiv (FP.l2d (b1 - c1)) (FP.l2d ((2 : Int64) * (a1 - c1)))))) rfl 129 rfl ?_
    refine s_dcmp X4 hx (hb hby at_129) (0 : Int32) (by rw [show FP.dcmp E (FP.dneg (FP.dneg (FP.ddiv (FP.l2d (b1 - c1)) (FP.l2d ((2 : Int64) * (a1 - c1)))))) = some .eq from (by rw [← hE, hh.2.2.2.2.2.2.2]; exact hh.2.1)]; rfl) 130 rfl ?_
    refine s_ifN X4 hx (hb hby at_130) (by decide) 133 rfl ?_
    refine s_dload X4 hx (hb hby at_133) rfl 135 rfl ?_
    refine s_ldc2D X4 hx (hb hby at_135) hZ hown (wd hw 14 _ rfl) 138 rfl ?_
    refine s_dcmp X4 hx (hb hby at_138) (cmpValue (FP.dcmp (FP.dneg E) (13826050856027422720 : UInt64)) .l) rfl 139 rfl ?_
    refine s_ifN X4 hx (hb hby at_139) (dd_lt_f hh.2.2.2.2.2.2.1) 142 rfl ?_
    refine s_dload X4 hx (hb hby at_142) rfl 144 rfl ?_
    refine s_ldc2D X4 hx (hb hby at_144) hZ hown (wd hw 15 _ rfl) 147 rfl ?_
    refine s_dcmp X4 hx (hb hby at_147) (cmpValue (FP.dcmp (FP.dneg E) (4602678819172646912 : UInt64)) .g) rfl 148 rfl ?_
    refine s_ifN X4 hx (hb hby at_148) (dd_gt_f hh.2.2.2.2.2.1) 151 rfl ?_
    refine s_iconst X4 hx (hb hby at_151) (1 : Int32) rfl 152 rfl ?_
    refine s_goto X4 hx (hb hby at_152) 156 (by decide) (by decide) ?_
    exact retZ X4 hx hlk hret (hb hby at_156) (by decide) hh4 ⟨rfl, M4⟩ (by decide) (by decide)
  · skip
    have ibc : b1.toInt ≤ c1.toInt := Int.not_lt.mp (fun q => hbc (Int64.lt_iff_toInt_lt.mpr q))
    refine s_lloadN X0 hx (hb hby at_7) rfl 8 rfl ?_
    refine s_lload X0 hx (hb hby at_8) rfl 10 rfl ?_
    obtain ⟨v5, T5, L5, X5, hQ5, st5⟩ := callStat X0 hx hZ hown (wd hw 0 _ rfl) (wd hw 1 _ rfl) (wd hw 2 _ rfl) (wd hw 3 _ rfl) (by decide) (rm_min0 l Z a0 hw [] b1 c1 h0 n0 Z0 hbc) e0 (L := #[.val (.int i0), .val (.int i1), .val (.int i2), .val (.long b1), .second, .val (.long c1), .second, .unset, .unset, .unset, .unset, .unset, .unset, .unset, .unset, .unset, .unset, .unset, .unset, .unset, .unset]) (hb hby at_10) (by rw [hml]; rfl) [.long b1, .long c1] [] rfl rfl pd_0 rfl 0 (by show 2 * 0 + _ ≤ _; exact Nat.le_of_eq rfl) (by decide) (by decide) (by decide) (by decide)
    obtain ⟨rfl, N5, hh5⟩ := hQ5
    have M5 := Fr.app N0 N5
    refine Go.via st5 ?_
    show Go p e below _ (T5.setTop (mkF m 13 #[.val (.int i0), .val (.int i1), .val (.int i2), .val (.long b1), .second, .val (.long c1), .second, .unset, .unset, .unset, .unset, .unset, .unset, .unset, .unset, .unset, .unset, .unset, .unset, .unset, .unset] [.long b1]))
    refine s_lstore X5 hx (hb hby at_13) #[.val (.int i0), .val (.int i1), .val (.int i2), .val (.long b1), .second, .val (.long c1), .second, .val (.long b1), .second, .unset, .unset, .unset, .unset, .unset, .unset, .unset, .unset, .unset, .unset, .unset, .unset] rfl 15 rfl ?_
    refine s_lloadN X5 hx (hb hby at_15) rfl 16 rfl ?_
    refine s_lload X5 hx (hb hby at_16) rfl 18 rfl ?_
    by_cases hlt : b1 < c1
    · skip
      have ilt : b1.toInt < c1.toInt := Int64.lt_iff_toInt_lt.mp hlt
      obtain ⟨v6, T6, L6, X6, hQ6, st6⟩ := callStat X5 hx hZ hown (wd hw 4 _ rfl) (wd hw 5 _ rfl) (wd hw 2 _ rfl) (wd hw 6 _ rfl) (by decide) (rm_max1 l Z a0 hw [] b1 c1 h0 n0 Z0 hlt) hh5 (L := #[.val (.int i0), .val (.int i1), .val (.int i2), .val (.long b1), .second, .val (.long c1), .second, .val (.long b1), .second, .unset, .unset, .unset, .unset, .unset, .unset, .unset, .unset, .unset, .unset, .unset, .unset]) (hb hby at_18) (by rw [hml]; rfl) [.long b1, .long c1] [] rfl rfl pd_1 rfl 0 (by show 2 * 0 + _ ≤ _; exact Nat.le_of_eq rfl) (by decide) (by decide) (by decide) (by decide)
      obtain ⟨rfl, N6, hh6⟩ := hQ6
      have M6 := Fr.app M5 N6
      refine Go.via st6 ?_
      show Go p e below _ (T6.setTop (mkF m 21 #[.val (.int i0), .val (.int i1), .val (.int i2), .val (.long b1), .second, .val (.long c1), .second, .val (.long b1), .second, .unset, .unset, .unset, .unset, .unset, .unset, .unset, .unset, .unset, .unset, .unset, .unset] [.long c1]))
      refine s_lstore X6 hx (hb hby at_21) #[.val (.int i0), .val (.int i1), .val (.int i2), .val (.long b1), .second, .val (.long c1), .second, .val (.long b1), .second, .val (.long c1), .second, .unset, .unset, .unset, .unset, .unset, .unset, .unset, .unset, .unset, .unset] rfl 23 rfl ?_
      refine s_lload X6 hx (hb hby at_23) rfl 25 rfl ?_
      refine s_iloadN X6 hx (hb hby at_25) rfl 26 rfl ?_
      refine s_ldcI X6 hx (hb hby at_26) hZ hown (wd hw 7 _ rfl) 28 rfl ?_
      refine s_iand X6 hx (hb hby at_28) (i2 &&& (2147483647 : Int32)) rfl 29 rfl ?_
      refine s_i2l X6 hx (hb hby at_29) ((i2 &&& (2147483647 : Int32)).toInt64) rfl 30 rfl ?_
      refine s_ladd X6 hx (hb hby at_30) (c1 + (i2 &&& (2147483647 : Int32)).toInt64) rfl 31 rfl ?_
      obtain ⟨a1, h_a1⟩ : ∃ v, v = (c1 + (i2 &&& (2147483647 : Int32)).toInt64) := ⟨_, rfl⟩
      refine s_lstore X6 hx (hb hby at_31) #[.val (.int i0), .val (.int i1), .val (.int i2), .val (.long b1), .second, .val (.long c1), .second, .val (.long b1), .second, .val (.long c1), .second, .val (.long a1), .second, .unset, .unset, .unset, .unset, .unset, .unset, .unset, .unset] (by rw [h_a1]; rfl) 33 rfl ?_
      have ba : c1.toInt ≤ a1.toInt ∧ a1.toInt ≤ c1.toInt + 2147483647 := by
        have hr := own_r i2
        rw [h_a1, Jvm.FP.Core.int64_add (by omega) (by omega)]; omega
      have ba2 : a1.toInt.natAbs ≤ 2 ^ 33 := by omega
      obtain ⟨es, em, ei, ej⟩ := own_den (a := a1) (b := b1) ba2 (by omega) (by omega)
      obtain ⟨eb, ek⟩ := own_sub (a := c1) (b := b1) (by omega) (by omega)
      obtain ⟨E, hE⟩ : ∃ E, E = FP.ddiv (FP.l2d (c1 - b1)) (FP.l2d (2 * (a1 - b1))) := ⟨_, rfl⟩
      have hh := own_half (n := c1 - b1) (d := 2 * (a1 - b1)) (by omega) (by omega) (by omega) (by omega) hE
      have nnE : FP.ddiv (FP.dneg (FP.l2d (c1 - b1))) (FP.l2d (2 * (a1 - b1))) = FP.dneg E := by rw [own_negdiv (by rw [← hE]; exact hh.1), ← hE]
      have k1 := own_cmp (a := c1) (b := b1) (by omega) (by omega)
      have k2 := own_cmp (a := b1) (b := c1) (by omega) (by omega)
      have k3 := own_cmp (a := a1) (b := b1) ba2 (by omega)
      rw [own_cgt (by omega)] at k1
      rw [own_clt (by omega)] at k2
      rw [own_cgt (by omega)] at k3
      refine s_lloadN X6 hx (hb hby at_33) rfl 34 rfl ?_
      refine s_l2d X6 hx (hb hby at_34) (FP.l2d b1) rfl 35 rfl ?_
      refine s_lload X6 hx (hb hby at_35) rfl 37 rfl ?_
      refine s_l2d X6 hx (hb hby at_37) (FP.l2d a1) rfl 38 rfl ?_
      refine s_lload X6 hx (hb hby at_38) rfl 40 rfl ?_
      refine s_l2d X6 hx (hb hby at_40) (FP.l2d c1) rfl 41 rfl ?_
      obtain ⟨v7, T7, L7, X7, hQ7, st7⟩ := callStat X6 hx hZ hown (wd hw 8 _ rfl) (wd hw 9 _ rfl) (wd hw 10 _ rfl) (wd hw 11 _ rfl) (by decide) (rm_fr1 l Z a0 hw [] (FP.l2d b1) (FP.l2d a1) (FP.l2d c1) h0 n0 Z0 (Or.inl k1) k3 (by rw [eb]; exact own_fin _) (by rw [es]; exact own_fin _) (by rw [em]; exact own_fin _) (by rw [eb, em, ← hE]; exact hh.1)) hh6 (L := #[.val (.int i0), .val (.int i1), .val (.int i2), .val (.long b1), .second, .val (.long c1), .second, .val (.long b1), .second, .val (.long c1), .second, .val (.long a1), .second, .unset, .unset, .unset, .unset, .unset, .unset, .unset, .unset]) (hb hby at_41) (by rw [hml]; rfl) [.double (FP.l2d b1), .double (FP.l2d a1), .double (FP.l2d c1)] [] rfl rfl pd_2 rfl 0 (by show 2 * 0 + _ ≤ _; exact Nat.le_of_eq rfl) (by decide) (by decide) (by decide) (by decide)
      obtain ⟨hv7, N7, hh7⟩ := hQ7
      rw [show FP.ddiv (FP.dsub (FP.l2d c1) (FP.l2d b1)) (FP.dmul (4611686018427387904 : UInt64) (FP.dsub (FP.l2d a1) (FP.l2d b1))) = E from by rw [eb, em, ← hE]] at hv7
      subst hv7
      have M7 := Fr.app M6 N7
      refine Go.via st7 ?_
      show Go p e below _ (T7.setTop (mkF m 44 #[.val (.int i0), .val (.int i1), .val (.int i2), .val (.long b1), .second, .val (.long c1), .second, .val (.long b1), .second, .val (.long c1), .second, .val (.long a1), .second, .unset, .unset, .unset, .unset, .unset, .unset, .unset, .unset] [.double E]))
      refine s_dstore X7 hx (hb hby at_44) #[.val (.int i0), .val (.int i1), .val (.int i2), .val (.long b1), .second, .val (.long c1), .second, .val (.long b1), .second, .val (.long c1), .second, .val (.long a1), .second, .val (.double E), .second, .unset, .unset, .unset, .unset, .unset, .unset] rfl 46 rfl ?_
      refine s_lload X7 hx (hb hby at_46) rfl 48 rfl ?_
      refine s_l2d X7 hx (hb hby at_48) (FP.l2d c1) rfl 49 rfl ?_
      refine s_lload X7 hx (hb hby at_49) rfl 51 rfl ?_
      refine s_l2d X7 hx (hb hby at_51) (FP.l2d a1) rfl 52 rfl ?_
      refine s_lloadN X7 hx (hb hby at_52) rfl 53 rfl ?_
      refine s_l2d X7 hx (hb hby at_53) (FP.l2d b1) rfl 54 rfl ?_
      obtain ⟨v8, T8, L8, X8, hQ8, st8⟩ := callStat X7 hx hZ hown (wd hw 8 _ rfl) (wd hw 9 _ rfl) (wd hw 10 _ rfl) (wd hw 11 _ rfl) (by decide) (rm_fr2 l Z a0 hw [] (FP.l2d c1) (FP.l2d a1) (FP.l2d b1) h0 n0 Z0 k2 k1 k3 (by rw [eb]; exact own_fin _) (by rw [es]; exact own_fin _) (by rw [em]; exact own_fin _) (by rw [eb, em, nnE]; exact own_nnn hh.1)) hh7 (L := #[.val (.int i0), .val (.int i1), .val (.int i2), .val (.long b1), .second, .val (.long c1), .second, .val (.long b1), .second, .val (.long c1), .second, .val (.long a1), .second, .val (.double E), .second, .unset, .unset, .unset, .unset, .unset, .unset]) (hb hby at_54) (by rw [hml]; rfl) [.double (FP.l2d c1), .double (FP.l2d a1), .double (FP.l2d b1)] [] rfl rfl pd_2 rfl 0 (by show 2 * 0 + _ ≤ _; exact Nat.le_of_eq rfl) (by decide) (by decide) (by decide) (by decide)
      obtain ⟨hv8, N8, hh8⟩ := hQ8
      rw [show FP.ddiv (FP.dneg (FP.dsub (FP.l2d c1) (FP.l2d b1))) (FP.dmul (4611686018427387904 : UInt64) (FP.dsub (FP.l2d a1) (FP.l2d b1))) = (FP.dneg E) from by rw [eb, em, nnE]] at hv8
      subst hv8
      have M8 := Fr.app M7 N8
      refine Go.via st8 ?_
      show Go p e below _ (T8.setTop (mkF m 57 #[.val (.int i0), .val (.int i1), .val (.int i2), .val (.long b1), .second, .val (.long c1), .second, .val (.long b1), .second, .val (.long c1), .second, .val (.long a1), .second, .val (.double E), .second, .unset, .unset, .unset, .unset, .unset, .unset] [.double (FP.dneg E)]))
      refine s_dstore X8 hx (hb hby at_57) #[.val (.int i0), .val (.int i1), .val (.int i2), .val (.long b1), .second, .val (.long c1), .second, .val (.long b1), .second, .val (.long c1), .second, .val (.long a1), .second, .val (.double E), .second, .val (.double (FP.dneg E)), .second, .unset, .unset, .unset, .unset] rfl 59 rfl ?_
      refine s_ldc2J X8 hx (hb hby at_59) hZ hown (wd hw 13 _ rfl) 62 rfl ?_
      refine s_lload X8 hx (hb hby at_62) rfl 64 rfl ?_
      refine s_lload X8 hx (hb hby at_64) rfl 66 rfl ?_
      refine s_lsub X8 hx (hb hby at_66) (a1 - b1) rfl 67 rfl ?_
      refine s_lmul X8 hx (hb hby at_67) ((2 : Int64) * (a1 - b1)) rfl 68 rfl ?_
      refine s_lstore X8 hx (hb hby at_68) #[.val (.int i0), .val (.int i1), .val (.int i2), .val (.long b1), .second, .val (.long c1), .second, .val (.long b1), .second, .val (.long c1), .second, .val (.long a1), .second, .val (.double E), .second, .val (.double (FP.dneg E)), .second, .val (.long ((2 : Int64) * (a1 - b1))), .second, .unset, .unset] rfl 70 rfl ?_
      refine s_lload X8 hx (hb hby at_70) rfl 72 rfl ?_
      refine s_lconst X8 hx (hb hby at_72) (0 : Int64) rfl 73 rfl ?_
      refine s_lcmp X8 hx (hb hby at_73) (XT.cmpL ((2 : Int64) * (a1 - b1)) (0 : Int64)) rfl 74 rfl ?_
      refine s_ifY X8 hx (hb hby at_74) (XT.ll_ne_t (fun q => by rw [q] at ej; have : (0 : Int64).toInt = 0 := rfl; omega)) 83 (by decide) (by decide) ?_
      refine s_lload X8 hx (hb hby at_83) rfl 85 rfl ?_
      refine s_lloadN X8 hx (hb hby at_85) rfl 86 rfl ?_
      refine s_lcmp X8 hx (hb hby at_86) (XT.cmpL c1 b1) rfl 87 rfl ?_
      refine s_ifN X8 hx (hb hby at_87) (XT.ll_lt_f hbc) 90 rfl ?_
      refine s_lload X8 hx (hb hby at_90) rfl 92 rfl ?_
      refine s_lloadN X8 hx (hb hby at_92) rfl 93 rfl ?_
      refine s_lsub X8 hx (hb hby at_93) (c1 - b1) rfl 94 rfl ?_
      refine s_l2d X8 hx (hb hby at_94) (FP.l2d (c1 - b1)) rfl 95 rfl ?_
      refine s_lload X8 hx (hb hby at_95) rfl 97 rfl ?_
      refine s_l2d X8 hx (hb hby at_97) (FP.l2d ((2 : Int64) * (a1 - b1))) rfl 98 rfl ?_
      refine s_ddiv X8 hx (hb hby at_98) (FP.ddiv (FP.l2d (c1 - b1)) (FP.l2d ((2 : Int64) * (a1 - b1)))) rfl (by rw [← hE]; exact hh.1) 99 rfl ?_
      refine s_dstore X8 hx (hb hby at_99) #[.val (.int i0), .val (.int i1), .val (.int i2), .val (.long b1), .second, .val (.long c1), .second, .val (.long b1), .second, .val (.long c1), .second, .val (.long a1), .second, .val (.double E), .second, .val (.double (FP.dneg E)), .second, .val (.long ((2 : Int64) * (a1 - b1))), .second, .val (.double (FP.ddiv (FP.l2d (c1 - b1)) (FP.l2d ((2 : Int64) * (a1 - b1))))), .second] rfl 101 rfl ?_
      refine s_goto X8 hx (hb hby at_101) 116 (by decide) (by decide) ?_
      refine s_dload X8 hx (hb hby at_116) rfl 118 rfl ?_
      refine s_dload X8 hx (hb hby at_118) rfl 120 rfl ?_
      refine s_dcmp X8 hx (hb hby at_120) (0 : Int32) (by rw [show FP.dcmp E (FP.ddiv (FP.l2d (c1 - b1)) (FP.l2d ((2 : Int64) * (a1 - b1)))) = some .eq from (by rw [← hE]; exact hh.2.1)]; rfl) 121 rfl ?_
      refine s_ifN X8 hx (hb hby at_121) (by decide) 124 rfl ?_
      refine s_dload X8 hx (hb hby at_124) rfl 126 rfl ?_
      refine s_dload X8 hx (hb hby at_126) rfl 128 rfl ?_
      refine s_dneg X8 hx (hb hby at_128) (FP.dneg (FP.ddiv (FP.l2d (c1 - b1)) (FP.l2d ((2 : Int64) * (a1 - b1))))) rfl 129 rfl ?_
      refine s_dcmp X8 hx (hb hby at_129) (0 : Int32) (by rw [show FP.dcmp (FP.dneg E) (FP.dneg (FP.ddiv (FP.l2d (c1 - b1)) (FP.l2d ((2 : Int64) * (a1 - b1))))) = some .eq from (by rw [← hE]; exact hh.2.2.1)]; rfl) 130 rfl ?_
      refine s_ifN X8 hx (hb hby at_130) (by decide) 133 rfl ?_
      refine s_dload X8 hx (hb hby at_133) rfl 135 rfl ?_
      refine s_ldc2D X8 hx (hb hby at_135) hZ hown (wd hw 14 _ rfl) 138 rfl ?_
      refine s_dcmp X8 hx (hb hby at_138) (cmpValue (FP.dcmp E (13826050856027422720 : UInt64)) .l) rfl 139 rfl ?_
      refine s_ifN X8 hx (hb hby at_139) (dd_lt_f hh.2.2.2.2.1) 142 rfl ?_
      refine s_dload X8 hx (hb hby at_142) rfl 144 rfl ?_
      refine s_ldc2D X8 hx (hb hby at_144) hZ hown (wd hw 15 _ rfl) 147 rfl ?_
      refine s_dcmp X8 hx (hb hby at_147) (cmpValue (FP.dcmp E (4602678819172646912 : UInt64)) .g) rfl 148 rfl ?_
      refine s_ifN X8 hx (hb hby at_148) (dd_gt_f hh.2.2.2.1) 151 rfl ?_
      refine s_iconst X8 hx (hb hby at_151) (1 : Int32) rfl 152 rfl ?_
      refine s_goto X8 hx (hb hby at_152) 156 (by decide) (by decide) ?_
      exact retZ X8 hx hlk hret (hb hby at_156) (by decide) hh8 ⟨rfl, M8⟩ (by decide) (by decide)
    · skip
      have ieq : b1.toInt = c1.toInt := Int.le_antisymm ibc (Int.not_lt.mp (fun q => hlt (Int64.lt_iff_toInt_lt.mpr q)))
      obtain ⟨v9, T9, L9, X9, hQ9, st9⟩ := callStat X5 hx hZ hown (wd hw 4 _ rfl) (wd hw 5 _ rfl) (wd hw 2 _ rfl) (wd hw 6 _ rfl) (by decide) (rm_max0 l Z a0 hw [] b1 c1 h0 n0 Z0 hlt) hh5 (L := #[.val (.int i0), .val (.int i1), .val (.int i2), .val (.long b1), .second, .val (.long c1), .second, .val (.long b1), .second, .unset, .unset, .unset, .unset, .unset, .unset, .unset, .unset, .unset, .unset, .unset, .unset]) (hb hby at_18) (by rw [hml]; rfl) [.long b1, .long c1] [] rfl rfl pd_1 rfl 0 (by show 2 * 0 + _ ≤ _; exact Nat.le_of_eq rfl) (by decide) (by decide) (by decide) (by decide)
      obtain ⟨rfl, N9, hh9⟩ := hQ9
      have M9 := Fr.app M5 N9
      refine Go.via st9 ?_
      show Go p e below _ (T9.setTop (mkF m 21 #[.val (.int i0), .val (.int i1), .val (.int i2), .val (.long b1), .second, .val (.long c1), .second, .val (.long b1), .second, .unset, .unset, .unset, .unset, .unset, .unset, .unset, .unset, .unset, .unset, .unset, .unset] [.long b1]))
      refine s_lstore X9 hx (hb hby at_21) #[.val (.int i0), .val (.int i1), .val (.int i2), .val (.long b1), .second, .val (.long c1), .second, .val (.long b1), .second, .val (.long b1), .second, .unset, .unset, .unset, .unset, .unset, .unset, .unset, .unset, .unset, .unset] rfl 23 rfl ?_
      refine s_lload X9 hx (hb hby at_23) rfl 25 rfl ?_
      refine s_iloadN X9 hx (hb hby at_25) rfl 26 rfl ?_
      refine s_ldcI X9 hx (hb hby at_26) hZ hown (wd hw 7 _ rfl) 28 rfl ?_
      refine s_iand X9 hx (hb hby at_28) (i2 &&& (2147483647 : Int32)) rfl 29 rfl ?_
      refine s_i2l X9 hx (hb hby at_29) ((i2 &&& (2147483647 : Int32)).toInt64) rfl 30 rfl ?_
      refine s_ladd X9 hx (hb hby at_30) (b1 + (i2 &&& (2147483647 : Int32)).toInt64) rfl 31 rfl ?_
      obtain ⟨a1, h_a1⟩ : ∃ v, v = (b1 + (i2 &&& (2147483647 : Int32)).toInt64) := ⟨_, rfl⟩
      refine s_lstore X9 hx (hb hby at_31) #[.val (.int i0), .val (.int i1), .val (.int i2), .val (.long b1), .second, .val (.long c1), .second, .val (.long b1), .second, .val (.long b1), .second, .val (.long a1), .second, .unset, .unset, .unset, .unset, .unset, .unset, .unset, .unset] (by rw [h_a1]; rfl) 33 rfl ?_
      have ba : b1.toInt ≤ a1.toInt ∧ a1.toInt ≤ b1.toInt + 2147483647 := by
        have hr := own_r i2
        rw [h_a1, Jvm.FP.Core.int64_add (by omega) (by omega)]; omega
      have ba2 : a1.toInt.natAbs ≤ 2 ^ 33 := by omega
      have k1 := own_cmp (a := c1) (b := b1) (by omega) (by omega)
      have k2 := own_cmp (a := b1) (b := c1) (by omega) (by omega)
      have k3 := own_cmp (a := a1) (b := b1) ba2 (by omega)
      have k4 := own_cmp (a := a1) (b := c1) ba2 (by omega)
      rw [own_ceq (by omega)] at k1
      rw [own_ceq (by omega)] at k2
      by_cases hab : a1.toInt = b1.toInt
      · skip
        rw [own_ceq (by omega)] at k3
        rw [own_ceq (by omega)] at k4
        have eden : (2 : Int64) * (a1 - b1) = 0 := by rw [Int64.toInt_inj.mp hab, Int64.sub_self]; rfl
        refine s_lloadN X9 hx (hb hby at_33) rfl 34 rfl ?_
        refine s_l2d X9 hx (hb hby at_34) (FP.l2d b1) rfl 35 rfl ?_
        refine s_lload X9 hx (hb hby at_35) rfl 37 rfl ?_
        refine s_l2d X9 hx (hb hby at_37) (FP.l2d a1) rfl 38 rfl ?_
        refine s_lload X9 hx (hb hby at_38) rfl 40 rfl ?_
        refine s_l2d X9 hx (hb hby at_40) (FP.l2d c1) rfl 41 rfl ?_
        obtain ⟨v10, T10, L10, X10, hQ10, st10⟩ := callStat X9 hx hZ hown (wd hw 8 _ rfl) (wd hw 9 _ rfl) (wd hw 10 _ rfl) (wd hw 11 _ rfl) (by decide) (rm_fr3 l Z a0 hw [] (FP.l2d b1) (FP.l2d a1) (FP.l2d c1) h0 n0 Z0 k1 k3 k2) hh9 (L := #[.val (.int i0), .val (.int i1), .val (.int i2), .val (.long b1), .second, .val (.long c1), .second, .val (.long b1), .second, .val (.long b1), .second, .val (.long a1), .second, .unset, .unset, .unset, .unset, .unset, .unset, .unset, .unset]) (hb hby at_41) (by rw [hml]; rfl) [.double (FP.l2d b1), .double (FP.l2d a1), .double (FP.l2d c1)] [] rfl rfl pd_2 rfl 0 (by show 2 * 0 + _ ≤ _; exact Nat.le_of_eq rfl) (by decide) (by decide) (by decide) (by decide)
        obtain ⟨hv10, N10, hh10⟩ := hQ10
        skip
        subst hv10
        have M10 := Fr.app M9 N10
        refine Go.via st10 ?_
        show Go p e below _ (T10.setTop (mkF m 44 #[.val (.int i0), .val (.int i1), .val (.int i2), .val (.long b1), .second, .val (.long c1), .second, .val (.long b1), .second, .val (.long b1), .second, .val (.long a1), .second, .unset, .unset, .unset, .unset, .unset, .unset, .unset, .unset] [.double (0 : UInt64)]))
        refine s_dstore X10 hx (hb hby at_44) #[.val (.int i0), .val (.int i1), .val (.int i2), .val (.long b1), .second, .val (.long c1), .second, .val (.long b1), .second, .val (.long b1), .second, .val (.long a1), .second, .val (.double (0 : UInt64)), .second, .unset, .unset, .unset, .unset, .unset, .unset] rfl 46 rfl ?_
        refine s_lload X10 hx (hb hby at_46) rfl 48 rfl ?_
        refine s_l2d X10 hx (hb hby at_48) (FP.l2d c1) rfl 49 rfl ?_
        refine s_lload X10 hx (hb hby at_49) rfl 51 rfl ?_
        refine s_l2d X10 hx (hb hby at_51) (FP.l2d a1) rfl 52 rfl ?_
        refine s_lloadN X10 hx (hb hby at_52) rfl 53 rfl ?_
        refine s_l2d X10 hx (hb hby at_53) (FP.l2d b1) rfl 54 rfl ?_
        obtain ⟨v11, T11, L11, X11, hQ11, st11⟩ := callStat X10 hx hZ hown (wd hw 8 _ rfl) (wd hw 9 _ rfl) (wd hw 10 _ rfl) (wd hw 11 _ rfl) (by decide) (rm_fr3 l Z a0 hw [] (FP.l2d c1) (FP.l2d a1) (FP.l2d b1) h0 n0 Z0 k2 k4 k1) hh10 (L := #[.val (.int i0), .val (.int i1), .val (.int i2), .val (.long b1), .second, .val (.long c1), .second, .val (.long b1), .second, .val (.long b1), .second, .val (.long a1), .second, .val (.double (0 : UInt64)), .second, .unset, .unset, .unset, .unset, .unset, .unset]) (hb hby at_54) (by rw [hml]; rfl) [.double (FP.l2d c1), .double (FP.l2d a1), .double (FP.l2d b1)] [] rfl rfl pd_2 rfl 0 (by show 2 * 0 + _ ≤ _; exact Nat.le_of_eq rfl) (by decide) (by decide) (by decide) (by decide)
        obtain ⟨hv11, N11, hh11⟩ := hQ11
        skip
        subst hv11
        have M11 := Fr.app M10 N11
        refine Go.via st11 ?_
        show Go p e below _ (T11.setTop (mkF m 57 #[.val (.int i0), .val (.int i1), .val (.int i2), .val (.long b1), .second, .val (.long c1), .second, .val (.long b1), .second, .val (.long b1), .second, .val (.long a1), .second, .val (.double (0 : UInt64)), .second, .unset, .unset, .unset, .unset, .unset, .unset] [.double (0 : UInt64)]))
        refine s_dstore X11 hx (hb hby at_57) #[.val (.int i0), .val (.int i1), .val (.int i2), .val (.long b1), .second, .val (.long c1), .second, .val (.long b1), .second, .val (.long b1), .second, .val (.long a1), .second, .val (.double (0 : UInt64)), .second, .val (.double (0 : UInt64)), .second, .unset, .unset, .unset, .unset] rfl 59 rfl ?_
        refine s_ldc2J X11 hx (hb hby at_59) hZ hown (wd hw 13 _ rfl) 62 rfl ?_
        refine s_lload X11 hx (hb hby at_62) rfl 64 rfl ?_
        refine s_lload X11 hx (hb hby at_64) rfl 66 rfl ?_
        refine s_lsub X11 hx (hb hby at_66) (a1 - b1) rfl 67 rfl ?_
        refine s_lmul X11 hx (hb hby at_67) ((2 : Int64) * (a1 - b1)) rfl 68 rfl ?_
        refine s_lstore X11 hx (hb hby at_68) #[.val (.int i0), .val (.int i1), .val (.int i2), .val (.long b1), .second, .val (.long c1), .second, .val (.long b1), .second, .val (.long b1), .second, .val (.long a1), .second, .val (.double (0 : UInt64)), .second, .val (.double (0 : UInt64)), .second, .val (.long ((2 : Int64) * (a1 - b1))), .second, .unset, .unset] rfl 70 rfl ?_
        refine s_lload X11 hx (hb hby at_70) rfl 72 rfl ?_
        refine s_lconst X11 hx (hb hby at_72) (0 : Int64) rfl 73 rfl ?_
        refine s_lcmp X11 hx (hb hby at_73) (XT.cmpL ((2 : Int64) * (a1 - b1)) (0 : Int64)) rfl 74 rfl ?_
        refine s_ifN X11 hx (hb hby at_74) (XT.ll_ne_f eden) 77 rfl ?_
        refine s_dconst0 X11 hx (hb hby at_77) (0 : UInt64) rfl 78 rfl ?_
        refine s_dstore X11 hx (hb hby at_78) #[.val (.int i0), .val (.int i1), .val (.int i2), .val (.long b1), .second, .val (.long c1), .second, .val (.long b1), .second, .val (.long b1), .second, .val (.long a1), .second, .val (.double (0 : UInt64)), .second, .val (.double (0 : UInt64)), .second, .val (.long ((2 : Int64) * (a1 - b1))), .second, .val (.double (0 : UInt64)), .second] rfl 80 rfl ?_
        refine s_goto X11 hx (hb hby at_80) 116 (by decide) (by decide) ?_
        refine s_dload X11 hx (hb hby at_116) rfl 118 rfl ?_
        refine s_dload X11 hx (hb hby at_118) rfl 120 rfl ?_
        refine s_dcmp X11 hx (hb hby at_120) (0 : Int32) (by rw [show FP.dcmp (0 : UInt64) (0 : UInt64) = some .eq from (by decide +kernel : FP.dcmp (0 : UInt64) 0 = some .eq)]; rfl) 121 rfl ?_
        refine s_ifN X11 hx (hb hby at_121) (by decide) 124 rfl ?_
        refine s_dload X11 hx (hb hby at_124) rfl 126 rfl ?_
        refine s_dload X11 hx (hb hby at_126) rfl 128 rfl ?_
        refine s_dneg X11 hx (hb hby at_128) (FP.dneg (0 : UInt64)) rfl 129 rfl ?_
        refine s_dcmp X11 hx (hb hby at_129) (0 : Int32) (by rw [show FP.dcmp (0 : UInt64) (FP.dneg (0 : UInt64)) = some .eq from own_zero_neg]; rfl) 130 rfl ?_
        refine s_ifN X11 hx (hb hby at_130) (by decide) 133 rfl ?_
        refine s_dload X11 hx (hb hby at_133) rfl 135 rfl ?_
        refine s_ldc2D X11 hx (hb hby at_135) hZ hown (wd hw 14 _ rfl) 138 rfl ?_
        refine s_dcmp X11 hx (hb hby at_138) (1 : Int32) (by rw [show FP.dcmp (0 : UInt64) (13826050856027422720 : UInt64) = some .gt from (by decide +kernel : FP.dcmp (0 : UInt64) 13826050856027422720 = some .gt)]; rfl) 139 rfl ?_
        refine s_ifN X11 hx (hb hby at_139) (by decide) 142 rfl ?_
        refine s_dload X11 hx (hb hby at_142) rfl 144 rfl ?_
        refine s_ldc2D X11 hx (hb hby at_144) hZ hown (wd hw 15 _ rfl) 147 rfl ?_
        refine s_dcmp X11 hx (hb hby at_147) (-1 : Int32) (by rw [show FP.dcmp (0 : UInt64) (4602678819172646912 : UInt64) = some .lt from (by decide +kernel : FP.dcmp (0 : UInt64) 4602678819172646912 = some .lt)]; rfl) 148 rfl ?_
        refine s_ifN X11 hx (hb hby at_148) (by decide) 151 rfl ?_
        refine s_iconst X11 hx (hb hby at_151) (1 : Int32) rfl 152 rfl ?_
        refine s_goto X11 hx (hb hby at_152) 156 (by decide) (by decide) ?_
        exact retZ X11 hx hlk hret (hb hby at_156) (by decide) hh11 ⟨rfl, M11⟩ (by decide) (by decide)
      · skip
        have ilt : b1.toInt < a1.toInt := by omega
        rw [own_cgt (by omega)] at k3
        rw [own_cgt (by omega)] at k4
        have hcb : c1 = b1 := Int64.toInt_inj.mp ieq.symm
        obtain ⟨es, em, ei, ej⟩ := own_den (a := a1) (b := b1) ba2 (by omega) (by omega)
        obtain ⟨eb, ek⟩ := own_sub (a := c1) (b := b1) (by omega) (by omega)
        obtain ⟨E, hE⟩ : ∃ E, E = FP.ddiv (FP.l2d (c1 - b1)) (FP.l2d (2 * (a1 - b1))) := ⟨_, rfl⟩
        have hh := own_half (n := c1 - b1) (d := 2 * (a1 - b1)) (by omega) (by omega) (by omega) (by omega) hE
        have hz : FP.dcmp E (FP.dneg E) = some .eq := by rw [hE]; exact own_zq (by omega) (by omega) (by omega)
        refine s_lloadN X9 hx (hb hby at_33) rfl 34 rfl ?_
        refine s_l2d X9 hx (hb hby at_34) (FP.l2d b1) rfl 35 rfl ?_
        refine s_lload X9 hx (hb hby at_35) rfl 37 rfl ?_
        refine s_l2d X9 hx (hb hby at_37) (FP.l2d a1) rfl 38 rfl ?_
        refine s_lload X9 hx (hb hby at_38) rfl 40 rfl ?_
        refine s_l2d X9 hx (hb hby at_40) (FP.l2d c1) rfl 41 rfl ?_
        obtain ⟨v12, T12, L12, X12, hQ12, st12⟩ := callStat X9 hx hZ hown (wd hw 8 _ rfl) (wd hw 9 _ rfl) (wd hw 10 _ rfl) (wd hw 11 _ rfl) (by decide) (rm_fr1 l Z a0 hw [] (FP.l2d b1) (FP.l2d a1) (FP.l2d c1) h0 n0 Z0 (Or.inr k1) k3 (by rw [eb]; exact own_fin _) (by rw [es]; exact own_fin _) (by rw [em]; exact own_fin _) (by rw [eb, em, ← hE]; exact hh.1)) hh9 (L := #[.val (.int i0), .val (.int i1), .val (.int i2), .val (.long b1), .second, .val (.long c1), .second, .val (.long b1), .second, .val (.long b1), .second, .val (.long a1), .second, .unset, .unset, .unset, .unset, .unset, .unset, .unset, .unset]) (hb hby at_41) (by rw [hml]; rfl) [.double (FP.l2d b1), .double (FP.l2d a1), .double (FP.l2d c1)] [] rfl rfl pd_2 rfl 0 (by show 2 * 0 + _ ≤ _; exact Nat.le_of_eq rfl) (by decide) (by decide) (by decide) (by decide)
        obtain ⟨hv12, N12, hh12⟩ := hQ12
        rw [show FP.ddiv (FP.dsub (FP.l2d c1) (FP.l2d b1)) (FP.dmul (4611686018427387904 : UInt64) (FP.dsub (FP.l2d a1) (FP.l2d b1))) = E from by rw [eb, em, ← hE]] at hv12
        subst hv12
        have M12 := Fr.app M9 N12
        refine Go.via st12 ?_
        show Go p e below _ (T12.setTop (mkF m 44 #[.val (.int i0), .val (.int i1), .val (.int i2), .val (.long b1), .second, .val (.long c1), .second, .val (.long b1), .second, .val (.long b1), .second, .val (.long a1), .second, .unset, .unset, .unset, .unset, .unset, .unset, .unset, .unset] [.double E]))
        refine s_dstore X12 hx (hb hby at_44) #[.val (.int i0), .val (.int i1), .val (.int i2), .val (.long b1), .second, .val (.long c1), .second, .val (.long b1), .second, .val (.long b1), .second, .val (.long a1), .second, .val (.double E), .second, .unset, .unset, .unset, .unset, .unset, .unset] rfl 46 rfl ?_
        refine s_lload X12 hx (hb hby at_46) rfl 48 rfl ?_
        refine s_l2d X12 hx (hb hby at_48) (FP.l2d c1) rfl 49 rfl ?_
        refine s_lload X12 hx (hb hby at_49) rfl 51 rfl ?_
        refine s_l2d X12 hx (hb hby at_51) (FP.l2d a1) rfl 52 rfl ?_
        refine s_lloadN X12 hx (hb hby at_52) rfl 53 rfl ?_
        refine s_l2d X12 hx (hb hby at_53) (FP.l2d b1) rfl 54 rfl ?_
        obtain ⟨v13, T13, L13, X13, hQ13, st13⟩ := callStat X12 hx hZ hown (wd hw 8 _ rfl) (wd hw 9 _ rfl) (wd hw 10 _ rfl) (wd hw 11 _ rfl) (by decide) (rm_fr1 l Z a0 hw [] (FP.l2d c1) (FP.l2d a1) (FP.l2d b1) h0 n0 Z0 (Or.inr k2) k4 (by rw [hcb] at eb ⊢; rw [eb]; exact own_fin _) (by rw [hcb, es]; exact own_fin _) (by rw [hcb, em]; exact own_fin _) (by rw [hcb] at eb hE ⊢; rw [eb, em, ← hE]; exact hh.1)) hh12 (L := #[.val (.int i0), .val (.int i1), .val (.int i2), .val (.long b1), .second, .val (.long c1), .second, .val (.long b1), .second, .val (.long b1), .second, .val (.long a1), .second, .val (.double E), .second, .unset, .unset, .unset, .unset, .unset, .unset]) (hb hby at_54) (by rw [hml]; rfl) [.double (FP.l2d c1), .double (FP.l2d a1), .double (FP.l2d b1)] [] rfl rfl pd_2 rfl 0 (by show 2 * 0 + _ ≤ _; exact Nat.le_of_eq rfl) (by decide) (by decide) (by decide) (by decide)
        obtain ⟨hv13, N13, hh13⟩ := hQ13
        rw [show FP.ddiv (FP.dsub (FP.l2d b1) (FP.l2d c1)) (FP.dmul (4611686018427387904 : UInt64) (FP.dsub (FP.l2d a1) (FP.l2d c1))) = E from by rw [hcb] at eb hE ⊢; rw [eb, em, ← hE]] at hv13
        subst hv13
        have M13 := Fr.app M12 N13
        refine Go.via st13 ?_
        show Go p e below _ (T13.setTop (mkF m 57 #[.val (.int i0), .val (.int i1), .val (.int i2), .val (.long b1), .second, .val (.long c1), .second, .val (.long b1), .second, .val (.long b1), .second, .val (.long a1), .second, .val (.double E), .second, .unset, .unset, .unset, .unset, .unset, .unset] [.double E]))
        refine s_dstore X13 hx (hb hby at_57) #[.val (.int i0), .val (.int i1), .val (.int i2), .val (.long b1), .second, .val (.long c1), .second, .val (.long b1), .second, .val (.long b1), .second, .val (.long a1), .second, .val (.double E), .second, .val (.double E), .second, .unset, .unset, .unset, .unset] rfl 59 rfl ?_
        refine s_ldc2J X13 hx (hb hby at_59) hZ hown (wd hw 13 _ rfl) 62 rfl ?_
        refine s_lload X13 hx (hb hby at_62) rfl 64 rfl ?_
        refine s_lload X13 hx (hb hby at_64) rfl 66 rfl ?_
        refine s_lsub X13 hx (hb hby at_66) (a1 - b1) rfl 67 rfl ?_
        refine s_lmul X13 hx (hb hby at_67) ((2 : Int64) * (a1 - b1)) rfl 68 rfl ?_
        refine s_lstore X13 hx (hb hby at_68) #[.val (.int i0), .val (.int i1), .val (.int i2), .val (.long b1), .second, .val (.long c1), .second, .val (.long b1), .second, .val (.long b1), .second, .val (.long a1), .second, .val (.double E), .second, .val (.double E), .second, .val (.long ((2 : Int64) * (a1 - b1))), .second, .unset, .unset] rfl 70 rfl ?_
        refine s_lload X13 hx (hb hby at_70) rfl 72 rfl ?_
        refine s_lconst X13 hx (hb hby at_72) (0 : Int64) rfl 73 rfl ?_
        refine s_lcmp X13 hx (hb hby at_73) (XT.cmpL ((2 : Int64) * (a1 - b1)) (0 : Int64)) rfl 74 rfl ?_
        refine s_ifY X13 hx (hb hby at_74) (XT.ll_ne_t (fun q => by rw [q] at ej; have : (0 : Int64).toInt = 0 := rfl; omega)) 83 (by decide) (by decide) ?_
        refine s_lload X13 hx (hb hby at_83) rfl 85 rfl ?_
        refine s_lloadN X13 hx (hb hby at_85) rfl 86 rfl ?_
        refine s_lcmp X13 hx (hb hby at_86) (XT.cmpL c1 b1) rfl 87 rfl ?_
        refine s_ifN X13 hx (hb hby at_87) (XT.ll_lt_f hbc) 90 rfl ?_
        refine s_lload X13 hx (hb hby at_90) rfl 92 rfl ?_
        refine s_lloadN X13 hx (hb hby at_92) rfl 93 rfl ?_
        refine s_lsub X13 hx (hb hby at_93) (c1 - b1) rfl 94 rfl ?_
        refine s_l2d X13 hx (hb hby at_94) (FP.l2d (c1 - b1)) rfl 95 rfl ?_
        refine s_lload X13 hx (hb hby at_95) rfl 97 rfl ?_
        refine s_l2d X13 hx (hb hby at_97) (FP.l2d ((2 : Int64) * (a1 - b1))) rfl 98 rfl ?_
        refine s_ddiv X13 hx (hb hby at_98) (FP.ddiv (FP.l2d (c1 - b1)) (FP.l2d ((2 : Int64) * (a1 - b1)))) rfl (by rw [← hE]; exact hh.1) 99 rfl ?_
        refine s_dstore X13 hx (hb hby at_99) #[.val (.int i0), .val (.int i1), .val (.int i2), .val (.long b1), .second, .val (.long c1), .second, .val (.long b1), .second, .val (.long b1), .second, .val (.long a1), .second, .val (.double E), .second, .val (.double E), .second, .val (.long ((2 : Int64) * (a1 - b1))), .second, .val (.double (FP.ddiv (FP.l2d (c1 - b1)) (FP.l2d ((2 : Int64) * (a1 - b1))))), .second] rfl 101 rfl ?_
        refine s_goto X13 hx (hb hby at_101) 116 (by decide) (by decide) ?_
        refine s_dload X13 hx (hb hby at_116) rfl 118 rfl ?_
        refine s_dload X13 hx (hb hby at_118) rfl 120 rfl ?_
        refine s_dcmp X13 hx (hb hby at_120) (0 : Int32) (by rw [show FP.dcmp E (FP.ddiv (FP.l2d (c1 - b1)) (FP.l2d ((2 : Int64) * (a1 - b1)))) = some .eq from (by rw [← hE]; exact hh.2.1)]; rfl) 121 rfl ?_
        refine s_ifN X13 hx (hb hby at_121) (by decide) 124 rfl ?_
        refine s_dload X13 hx (hb hby at_124) rfl 126 rfl ?_
        refine s_dload X13 hx (hb hby at_126) rfl 128 rfl ?_
        refine s_dneg X13 hx (hb hby at_128) (FP.dneg (FP.ddiv (FP.l2d (c1 - b1)) (FP.l2d ((2 : Int64) * (a1 - b1))))) rfl 129 rfl ?_
        refine s_dcmp X13 hx (hb hby at_129) (0 : Int32) (by rw [show FP.dcmp E (FP.dneg (FP.ddiv (FP.l2d (c1 - b1)) (FP.l2d ((2 : Int64) * (a1 - b1))))) = some .eq from (by rw [← hE]; exact hz)]; rfl) 130 rfl ?_
        refine s_ifN X13 hx (hb hby at_130) (by decide) 133 rfl ?_
        refine s_dload X13 hx (hb hby at_133) rfl 135 rfl ?_
        refine s_ldc2D X13 hx (hb hby at_135) hZ hown (wd hw 14 _ rfl) 138 rfl ?_
        refine s_dcmp X13 hx (hb hby at_138) (cmpValue (FP.dcmp E (13826050856027422720 : UInt64)) .l) rfl 139 rfl ?_
        refine s_ifN X13 hx (hb hby at_139) (dd_lt_f hh.2.2.2.2.1) 142 rfl ?_
        refine s_dload X13 hx (hb hby at_142) rfl 144 rfl ?_
        refine s_ldc2D X13 hx (hb hby at_144) hZ hown (wd hw 15 _ rfl) 147 rfl ?_
        refine s_dcmp X13 hx (hb hby at_147) (cmpValue (FP.dcmp E (4602678819172646912 : UInt64)) .g) rfl 148 rfl ?_
        refine s_ifN X13 hx (hb hby at_148) (dd_gt_f hh.2.2.2.1) 151 rfl ?_
        refine s_iconst X13 hx (hb hby at_151) (1 : Int32) rfl 152 rfl ?_
        refine s_goto X13 hx (hb hby at_152) 156 (by decide) (by decide) ?_
        exact retZ X13 hx hlk hret (hb hby at_156) (by decide) hh13 ⟨rfl, M13⟩ (by decide) (by decide)
set_option maxRecDepth 65536 in
set_option maxHeartbeats 40000000 in
theorem comes_1 {Post : Tables → Env → Array Value → State → Outcome → State → Prop} (hpost : ∀ tb e args s v u, (limb_1_1.after args s (.returned v) u = true ∧ limb_1_2.after args s (.returned v) u = true ∧ True) → FrameEnd s (.returned v) u (Jvm.fieldLocs frame_1_writes args s ++ Jvm.arrayLocs frame_1_arrays args s ++ Jvm.staticLocs frame_1_statics s) 0 0 → Post tb e args s (.returned v) u) :
    ArmFor flags0 classFile x code maxLocals ret World_1 tables_1 room_1 Calls_1 rest_1 Pre_1 Post := by
  intro l hfl _ _ p e ha hc hk s m args below hf hA hF happ hP
  obtain ⟨hcalls, hrest, hpre⟩ := hP
  obtain ⟨-, -, -, hnamed, -, -, -, hat⟩ := (Spec.applies_iff hf).mp happ
  obtain ⟨hg, hn⟩ := and_e (Cond.before_iff.mp (show (Jvm.Cond.and given_1 narrow_1).before args s = true from hpre))
  obtain ⟨hg0, hg1⟩ := and_e hg
  obtain ⟨w0, w1, w2, rfl⟩ : ∃ w0 w1 w2 : Value, args = #[w0, w1, w2] := by
    have hs : args.size = 3 := by simpa [Cond.value, given_1] using hg0
    obtain ⟨L⟩ := args
    match L, hs with
    | [w0, w1, w2], _ => exact ⟨w0, w1, w2, rfl⟩
  have hw := fun d (hd : d ∈ tables_1) => atoms_spec (ws := Jvm.Cond.code x code maxLocals ret :: tables_1) hat d (List.mem_cons_of_mem _ hd)
  obtain ⟨ga0, hg2⟩ := and_e hg1
  obtain ⟨ga1, hg3⟩ := and_e hg2
  have ga2 := hg3
  obtain ⟨i0, ei0⟩ := is_v ga0
  obtain rfl : w0 = .int i0 := Option.some.inj ei0
  obtain ⟨i1, ei1⟩ := is_v ga1
  obtain rfl : w1 = .int i1 := Option.some.inj ei1
  obtain ⟨i2, ei2⟩ := is_v ga2
  obtain rfl : w2 = .int i2 := Option.some.inj ei2
  obtain ⟨n, o, h1, h2, h3, _, L, rfl, ⟨rfl, N⟩, hq⟩ := rm_law l s _ hw tables_1 i0 i1 i2 s.heap s.heap.size (Nat.le_refl _) p e ha hc hk s m _ below hf ((Spec.applies_iff_loose hf).mp happ).1 ⟨rfl, State.Warmed39.refl s, rfl⟩ trivial
  refine ⟨n, _, h1, h2, h3, hpost _ _ _ _ _ _ ⟨Cond.after_iff.mpr rfl, Cond.after_iff.mpr (eq_i res_at (Term.int_eval (1)) rfl), trivial⟩ ⟨hq.1, hq.2.1, (hq.2.2.sift fun y hy => Or.inr (N y hy)).mono (by decide) (by decide)⟩⟩
theorem main_1_1 : Claimed_1_1 := comes_1 fun _ _ _ _ _ _ h hF => ⟨h.1, hF⟩
theorem main_1_2 : Claimed_1_2 := comes_1 fun _ _ _ _ _ _ h hF => ⟨h.2.1, hF⟩
end Jvm.Pilot.@@N@@
namespace Jvm.Pilot.@@N@@
open Jvm Jvm.ClassFile Sem Op Lib Jvm.Free Jvm.Stand Jvm.Pilot.@@N@@.Jvm.D
/-! MADE BY PROGRAM (witnessworld.py) out of the Statement's table words and the real class files: 10 classes; the members and pool entries that the words name. The judged class is class 1, her method 1. -/
namespace start1
open Jvm.ClassFile
def u (s : String) : CpInfo := .utf8 (stringToUtf16 s)
/-- a pool by its gaps: so many unusable entries, then the entry; so many at the end -/
def gap : Nat → List CpInfo → List CpInfo
  | 0, r => r
  | n + 1, r => .unusable :: gap n r
def poolList (es : List (Nat × CpInfo)) (last : Nat) : List CpInfo := es.foldr (fun e r => gap e.1 (e.2 :: r)) (gap last [])
def pool (es : List (Nat × CpInfo)) (last : Nat) : Array CpInfo := ⟨poolList es last⟩
def fileOf (pool : Array CpInfo) (this : Nat) (attrs : Array Attribute := #[]) (ms : Array MethodInfo := #[]) (fl : Nat := 33) (sup : Nat := 0) (ifs : Array Nat := #[]) (fds : Array FieldInfo := #[]) : ClassFile where
  minorVersion := 0
  majorVersion := 65
  constantPool := pool
  accessFlags := fl
  thisClass := this
  superClass := sup
  interfaces := ifs
  fields := fds
  methods := ms
  attributes := attrs
def plain (name : String) (sup : Option ClassId) : Class where
  name := name
  kind := .ordinary
  loader := none
  accessFlags := 33
  super := sup
  interfaces := #[]
  cf := none
  fields := #[]
  methods := #[]
  instanceTypes := #[]
  staticTypes := #[]
  resolved := #[]
  callSites := []
  init := .initialized
  statics := none
  mirror := none

def pool0 : Array CpInfo := pool [(5, u "<init>"), (0, u "()V"), (1, .class_ 10), (1, u "java/lang/Object")] 113

def k0m0 : Method := { name := "<init>", desc := "()V", sig := { parameters := [], returnType := none }, accessFlags := 1, code := none }
/-- java/lang/Object -/
def k0 : Class := { plain "java/lang/Object" none with
  accessFlags := 33
  interfaces := #[]
  cf := some (fileOf pool0 8 #[] #[{ accessFlags := 1, nameIndex := 5, descriptorIndex := 6, attributes := #[] }] 33 0 #[] #[])
  fields := #[]
  methods := #[k0m0]
  instanceTypes := #[]
  staticTypes := #[]
  resolved := Array.replicate 124 none
  statics := none }

def pool1 : Array CpInfo := pool [(2, .class_ 4), (1, u "java/lang/Object"), (0, u "<init>"), (0, u "()V"), (0, .methodref 8 9), (0, .class_ 10), (0, .nameAndType 11 12), (0, u "java/lang/Math"), (0, u "min"), (0, u "(JJ)J"), (0, .methodref 8 14), (0, .nameAndType 15 12), (0, u "max"), (0, .integer 2147483647), (0, .methodref 18 19), (0, .class_ 20), (0, .nameAndType 21 22), (0, u "com/example/lamina3/lamina3/CorrelationPeak"), (0, u "fraction"), (0, u "(DDD)D"), (0, .long 2), (1, .double 13826050856027422720), (1, .double 4602678819172646912), (1, .class_ 30), (0, u "com/example/lamina3/lamina3/CorrelationPeakFractionPinLaw"), (2, u "law"), (0, u "(III)Z")] 3

def k1m0 : Method := { name := "<init>", desc := "()V", sig := { parameters := [], returnType := none }, accessFlags := 2, code := none }
def k1c1 : Code := { maxStack := 6, maxLocals := 21, code := code, exceptionTable := #[], attributes := #[] }
def k1m1 : Method := { name := "law", desc := "(III)Z", sig := { parameters := [.int, .int, .int], returnType := some .boolean }, accessFlags := 9, code := some k1c1 }
/-- com/example/lamina3/lamina3/CorrelationPeakFractionPinLaw -/
def k1 : Class := { plain "com/example/lamina3/lamina3/CorrelationPeakFractionPinLaw" (some 0) with
  accessFlags := 49
  interfaces := #[]
  cf := some (fileOf pool1 29 #[] #[{ accessFlags := 2, nameIndex := 5, descriptorIndex := 6, attributes := #[] }, { accessFlags := 9, nameIndex := 33, descriptorIndex := 34, attributes := #[] }] 49 2 #[] #[])
  fields := #[]
  methods := #[k1m0, k1m1]
  instanceTypes := #[]
  staticTypes := #[]
  resolved := Array.replicate 38 none
  statics := none }

def pool2 : Array CpInfo := pool [(1, .class_ 2), (0, u "java/lang/Math"), (1, .class_ 6), (1, u "java/lang/Object"), (0, u "<init>"), (0, u "()V"), (89, .class_ 100), (1, u "java/lang/Math$RandomNumberGeneratorHolder"), (20, u "(JJ)J"), (50, u "negativeZeroFloatBits"), (0, u "J"), (2, u "negativeZeroDoubleBits"), (21, u "max"), (2, u "min"), (43, u "$assertionsDisabled"), (0, u "Z"), (91, u "twoToTheDoubleScaleDown"), (0, u "D"), (4, u "twoToTheDoubleScaleUp"), (9, u "E"), (3, u "PI"), (2, u "TAU"), (2, u "DEGREES_TO_RADIANS"), (0, u "RADIANS_TO_DEGREES")] 94

def k2m0 : Method := { name := "<init>", desc := "()V", sig := { parameters := [], returnType := none }, accessFlags := 2, code := none }
def k2c1 : Code := { maxStack := 4, maxLocals := 4, code := jdk_29_method_66_code, exceptionTable := #[], attributes := #[] }
def k2m1 : Method := { name := "max", desc := "(JJ)J", sig := { parameters := [.long, .long], returnType := some .long }, accessFlags := 9, code := some k2c1 }
def k2c2 : Code := { maxStack := 4, maxLocals := 4, code := jdk_29_method_70_code, exceptionTable := #[], attributes := #[] }
def k2m2 : Method := { name := "min", desc := "(JJ)J", sig := { parameters := [.long, .long], returnType := some .long }, accessFlags := 9, code := some k2c2 }
/-- java/lang/Math -/
def k2 : Class := { plain "java/lang/Math" (some 0) with
  accessFlags := 49
  interfaces := #[]
  cf := some (fileOf pool2 1 #[.nestMembers #[98]] #[{ accessFlags := 2, nameIndex := 7, descriptorIndex := 8, attributes := #[] }, { accessFlags := 9, nameIndex := 198, descriptorIndex := 121, attributes := #[] }, { accessFlags := 9, nameIndex := 201, descriptorIndex := 121, attributes := #[] }] 49 4 #[] #[{ accessFlags := 25, nameIndex := 354, descriptorIndex := 339, attributes := #[] }, { accessFlags := 25, nameIndex := 358, descriptorIndex := 339, attributes := #[] }, { accessFlags := 25, nameIndex := 361, descriptorIndex := 339, attributes := #[] }, { accessFlags := 26, nameIndex := 364, descriptorIndex := 339, attributes := #[] }, { accessFlags := 26, nameIndex := 365, descriptorIndex := 339, attributes := #[] }, { accessFlags := 26, nameIndex := 172, descriptorIndex := 173, attributes := #[] }, { accessFlags := 26, nameIndex := 176, descriptorIndex := 173, attributes := #[] }, { accessFlags := 8, nameIndex := 344, descriptorIndex := 339, attributes := #[] }, { accessFlags := 8, nameIndex := 338, descriptorIndex := 339, attributes := #[] }, { accessFlags := 4120, nameIndex := 245, descriptorIndex := 246, attributes := #[] }])
  fields := #[{ name := "E", type := .double, accessFlags := 25, slot := 0, constantValue := 0 }, { name := "PI", type := .double, accessFlags := 25, slot := 1, constantValue := 0 }, { name := "TAU", type := .double, accessFlags := 25, slot := 2, constantValue := 0 }, { name := "DEGREES_TO_RADIANS", type := .double, accessFlags := 26, slot := 3, constantValue := 0 }, { name := "RADIANS_TO_DEGREES", type := .double, accessFlags := 26, slot := 4, constantValue := 0 }, { name := "negativeZeroFloatBits", type := .long, accessFlags := 26, slot := 5, constantValue := 0 }, { name := "negativeZeroDoubleBits", type := .long, accessFlags := 26, slot := 6, constantValue := 0 }, { name := "twoToTheDoubleScaleUp", type := .double, accessFlags := 8, slot := 7, constantValue := 0 }, { name := "twoToTheDoubleScaleDown", type := .double, accessFlags := 8, slot := 8, constantValue := 0 }, { name := "$assertionsDisabled", type := .boolean, accessFlags := 4120, slot := 9, constantValue := 0 }]
  methods := #[k2m0, k2m1, k2m2]
  instanceTypes := #[]
  staticTypes := #[.double, .double, .double, .double, .double, .long, .long, .double, .double, .boolean]
  resolved := Array.replicate 460 none
  statics := none }

def pool3 : Array CpInfo := pool [(2, .class_ 4), (1, u "java/lang/Object"), (0, u "<init>"), (0, u "()V"), (0, .double 4611686018427387904), (1, .class_ 10), (0, u "com/example/lamina3/lamina3/CorrelationPeak"), (2, u "fraction"), (0, u "(DDD)D")] 3

def k3m0 : Method := { name := "<init>", desc := "()V", sig := { parameters := [], returnType := none }, accessFlags := 2, code := none }
def k3c1 : Code := { maxStack := 8, maxLocals := 8, code := prog_14_method_2_code, exceptionTable := #[], attributes := #[] }
def k3m1 : Method := { name := "fraction", desc := "(DDD)D", sig := { parameters := [.double, .double, .double], returnType := some .double }, accessFlags := 8, code := some k3c1 }
/-- com/example/lamina3/lamina3/CorrelationPeak -/
def k3 : Class := { plain "com/example/lamina3/lamina3/CorrelationPeak" (some 0) with
  accessFlags := 48
  interfaces := #[]
  cf := some (fileOf pool3 9 #[] #[{ accessFlags := 2, nameIndex := 5, descriptorIndex := 6, attributes := #[] }, { accessFlags := 8, nameIndex := 13, descriptorIndex := 14, attributes := #[] }] 48 2 #[] #[])
  fields := #[]
  methods := #[k3m0, k3m1]
  instanceTypes := #[]
  staticTypes := #[]
  resolved := Array.replicate 18 none
  statics := none }

def pool4 : Array CpInfo := pool [(1, u "java/lang/Cloneable"), (0, .class_ 1), (0, u "java/lang/Object"), (0, .class_ 3)] 3

/-- java/lang/Cloneable -/
def k4 : Class := { plain "java/lang/Cloneable" (some 0) with
  accessFlags := 1537
  interfaces := #[]
  cf := some (fileOf pool4 2 #[] #[] 1537 4 #[] #[])
  fields := #[]
  methods := #[]
  instanceTypes := #[]
  staticTypes := #[]
  resolved := Array.replicate 8 none
  statics := none }

def pool5 : Array CpInfo := pool [(1, u "java/io/Serializable"), (0, .class_ 1), (0, u "java/lang/Object"), (0, .class_ 3)] 3

/-- java/io/Serializable -/
def k5 : Class := { plain "java/io/Serializable" (some 0) with
  accessFlags := 1537
  interfaces := #[]
  cf := some (fileOf pool5 2 #[] #[] 1537 4 #[] #[])
  fields := #[]
  methods := #[]
  instanceTypes := #[]
  staticTypes := #[]
  resolved := Array.replicate 8 none
  statics := none }

/-- the primitive byte -/
def k6 : Class := { plain "byte" none with kind := .primitive 'B', accessFlags := 0x411 }
/-- [B -/
def k7 : Class := { plain "[B" (some 0) with kind := .array 6 .byte, interfaces := #[4, 5], accessFlags := 1041 }

/-- the primitive int -/
def k8 : Class := { plain "int" none with kind := .primitive 'I', accessFlags := 0x411 }
/-- [I -/
def k9 : Class := { plain "[I" (some 0) with kind := .array 8 .int, interfaces := #[4, 5], accessFlags := 1041 }

def heap : Heap := #[]
def classes : Array Class := #[k0, k1, k2, k3, k4, k5, k6, k7, k8, k9]
def interned : List (Array UInt16 × Addr) := []
def slotsUsed : Nat := 0
def theMethod : MethodId := ⟨1, 1⟩
def args0 : Array Value := #[.int 3, .int 2, .int 5]
def aboutOver (below : List Frame) : State where
  vm := { classes := classes, interned := interned.toArray }
  heap := heap
  slotsUsed := slotsUsed
  threads := #[{ frames := .invoking theMethod args0 :: below }]
def below0 : List Frame := [.native { method := ⟨0, 0⟩, args := #[] }]
def about1 : State := aboutOver below0
def p0 : Program := .bare "" "" ""
def e0 : Env := launch0.env 0 0 0
theorem w_frames : about1.frames = Frame.invoking theMethod args0 :: below0 := rfl
set_option maxRecDepth 65536 in
theorem w_args : argsFit about1.vm theMethod args0 = true := by decide +kernel
set_option maxRecDepth 65536 in
theorem w_heap : heapFits about1 = true := by decide +kernel
set_option maxRecDepth 65536 in
theorem w_runnable : about1.curStatus? = some .runnable := by decide +kernel
set_option maxRecDepth 65536 in
theorem w_alone : about1.alone = true := by decide +kernel
set_option maxRecDepth 65536 in
theorem w_named : about1.methodNamed? x = some theMethod := by decide +kernel
set_option maxRecDepth 65536 in
theorem w_hears : about1.hears theMethod below0 = true := by decide +kernel
set_option maxRecDepth 65536 in
theorem w_ripe : about1.ripe theMethod args0 below0 = true := by decide +kernel
theorem w_running : about1.status = .running := rfl
set_option maxRecDepth 65536 in
theorem w_room : about1.hasRoom e0.platform room_1 = true :=
  launch0.hasRoom_least _ room_1 (by decide +kernel) (by decide +kernel) (by decide +kernel) (by decide +kernel) (by decide +kernel) (by decide +kernel)
theorem allAtoms_all (ts : List Jvm.Cond) (a : Array Jvm.Value) (st : Jvm.State) : (allAtoms ts).before a st = ts.all (fun c => c.before a st) := by
  induction ts with
  | nil => rfl
  | cons c t ih =>
    show (Jvm.Cond.and c (allAtoms t)).before a st = _
    rw [Jvm.Cond.before_and, ih, List.all_cons]
def words1 : List Jvm.Cond := Jvm.Cond.code x code maxLocals ret :: tables_1
/-- a 'code' word, met by the world's own term for the bytes: nothing is compared byte by byte -/
theorem code_word {y : MethodName} {bytes : ByteArray} {mx : Nat} {rt : Option FieldType} {a : Array Value} {s : State} {m : MethodId} {meth : Method} {c : Code} (h1 : s.methodNamed? y = some m) (h2 : s.vm.method? m = some meth) (h3 : meth.code = some c) (h4 : c.code = bytes)
    (h5 : (c.maxLocals == mx && c.exceptionTable.isEmpty && decide (c.maxStack ≤ mostOperands) && decide (meth.sig.returnType = rt) && !meth.locks && decide (parseMethodDescriptor y.desc = some meth.sig)) = true) : (Jvm.Cond.code y bytes mx rt).before a s = true := by
  simp only [Bool.and_eq_true, beq_iff_eq, Bool.not_eq_true', decide_eq_true_eq] at h5
  obtain ⟨⟨⟨⟨⟨g1, g2⟩, g3⟩, g4⟩, g5⟩, g6⟩ := h5
  simp [Cond.before, Cond.holds, Cond.value, h1, h2, h3, h4, g1, g2, g3, g4, g5, g6]
def isCode : Jvm.Cond → Bool
  | .code _ _ _ _ => true
  | _ => false
theorem all_split {L : List Jvm.Cond} {P : Jvm.Cond → Bool} (h1 : L.all (fun c => isCode c || P c) = true) (h2 : ∀ c ∈ L.filter isCode, P c = true) : L.all P = true := by
  refine List.all_eq_true.mpr fun c hc => ?_
  have h := List.all_eq_true.mp h1 c hc
  rcases Bool.eq_false_or_eq_true (isCode c) with hi | hi
  · exact h2 c (List.mem_filter.mpr ⟨hc, hi⟩)
  · simpa [hi] using h
set_option maxRecDepth 65536 in
theorem w_c0 : (Jvm.Cond.code x code maxLocals ret).before args0 about1 = true := code_word (m := ⟨1, 1⟩) (meth := k1m1) (c := k1c1) (by decide +kernel) rfl rfl rfl (by decide +kernel)
set_option maxRecDepth 65536 in
theorem w_c1 : (Jvm.Cond.code ({ cls := "java/lang/Math", name := "min", desc := "(JJ)J" } : Jvm.MethodName) jdk_29_method_70_code (4 : Nat) (Option.some Jvm.ClassFile.FieldType.long)).before args0 about1 = true := code_word (m := ⟨2, 2⟩) (meth := k2m2) (c := k2c2) (by decide +kernel) rfl rfl rfl (by decide +kernel)
set_option maxRecDepth 65536 in
theorem w_c2 : (Jvm.Cond.code ({ cls := "java/lang/Math", name := "max", desc := "(JJ)J" } : Jvm.MethodName) jdk_29_method_66_code (4 : Nat) (Option.some Jvm.ClassFile.FieldType.long)).before args0 about1 = true := code_word (m := ⟨2, 1⟩) (meth := k2m1) (c := k2c1) (by decide +kernel) rfl rfl rfl (by decide +kernel)
set_option maxRecDepth 65536 in
theorem w_c3 : (Jvm.Cond.code ({ cls := "com/example/lamina3/lamina3/CorrelationPeak", name := "fraction", desc := "(DDD)D" } : Jvm.MethodName) prog_14_method_2_code (8 : Nat) (Option.some Jvm.ClassFile.FieldType.double)).before args0 about1 = true := code_word (m := ⟨3, 1⟩) (meth := k3m1) (c := k3c1) (by decide +kernel) rfl rfl rfl (by decide +kernel)
def codes1 : List Jvm.Cond := [Jvm.Cond.code x code maxLocals ret, Jvm.Cond.code ({ cls := "java/lang/Math", name := "min", desc := "(JJ)J" } : Jvm.MethodName) jdk_29_method_70_code (4 : Nat) (Option.some Jvm.ClassFile.FieldType.long), Jvm.Cond.code ({ cls := "java/lang/Math", name := "max", desc := "(JJ)J" } : Jvm.MethodName) jdk_29_method_66_code (4 : Nat) (Option.some Jvm.ClassFile.FieldType.long), Jvm.Cond.code ({ cls := "com/example/lamina3/lamina3/CorrelationPeak", name := "fraction", desc := "(DDD)D" } : Jvm.MethodName) prog_14_method_2_code (8 : Nat) (Option.some Jvm.ClassFile.FieldType.double)]
set_option maxRecDepth 65536 in
theorem codes_eq : words1.filter isCode = codes1 := rfl
theorem w_codes : ∀ c ∈ words1.filter isCode, c.before args0 about1 = true := by
  rw [codes_eq]
  intro c hc
  simp only [codes1, List.mem_cons, List.not_mem_nil, or_false] at hc
  rcases hc with rfl | rfl | rfl | rfl
  · exact w_c0
  · exact w_c1
  · exact w_c2
  · exact w_c3
set_option maxRecDepth 65536 in
theorem w_t1 : words1.all (fun c => isCode c || c.before args0 about1) = true := by decide +kernel
theorem w_tables : (allAtoms (Jvm.Cond.code x code maxLocals ret :: tables_1)).before args0 about1 = true := by
  rw [allAtoms_all]
  show words1.all (fun c => c.before args0 about1) = true
  refine all_split ?_ w_codes
  rw [w_t1]
set_option maxRecDepth 65536 in
theorem w_case : (Jvm.Cond.and given_1 narrow_1).before args0 about1 = true := by decide +kernel
theorem w_applies : (headSpec (Jvm.Cond.code x code maxLocals ret :: tables_1) room_1).applies x e0.platform about1 = true :=
  (Spec.applies_iff w_frames).mpr ⟨w_running, w_runnable, w_alone, w_named, w_hears, w_ripe, w_room, w_tables⟩
theorem atStart : AtStart classFile x code maxLocals ret World_1 tables_1 room_1 Calls_1 rest_1 Pre_1 launch0 p0 e0 about1 theMethod args0 below0 :=
  ⟨lists_1, trivial, launch0.admits_env _ _ _, launch0.least_env, fairChoices_fair.cas, fairChoices_fair.clock, w_frames, w_args, w_heap, w_applies, trivial, trivial, w_case⟩
end start1
theorem witness_1 : WitnessClaimed_1 := ⟨start1.p0, start1.e0, start1.about1, start1.theMethod, start1.args0, start1.below0, start1.atStart⟩
end Jvm.Pilot.@@N@@

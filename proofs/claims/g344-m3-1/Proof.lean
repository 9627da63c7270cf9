import JvmDerived
import JvmDerived.Pilot.@@N@@Statement
import JvmDerived.Pilot.@@N@@Code
set_option linter.unusedVariables false
set_option linter.unusedSimpArgs false
namespace Jvm.OwnGo
open Sem ClassFile Op Lib Jvm.Stand Jvm.Free Jvm.LawKit Jvm.RoadKit Jvm.Free.Fl
/-- from S the run comes to an end of which P speaks -/
def Go (p : Program) (e : Env) (below : List Frame) (P : Outcome → State → Prop) (S : State) : Prop := ∃ s₂ o, Steps p.tables e below S s₂ ∧ s₂.status = .running ∧ Ended s₂ below o ∧ P o s₂
/-- what a body's end says -/
def EndsAt (s : State) (Q : Option Value → Heap → List Loc → Prop) (rm : Room) : Outcome → State → Prop := fun o U' => ∃ v L, o = .returned v ∧ Q v U'.heap L ∧ FrameEnd s o U' L rm.cells rm.slots
/-- a body's contract -/
def Ct (l : Launch) (Z : State) (y : MethodName) (bytes : ByteArray) (ml : Nat) (ret : Option FieldType) (ws : List Jvm.Cond) (rm : Room) (as : Array Value) (h0 : Heap) (Q : Option Value → Heap → List Loc → Prop) : Prop :=
  MetFree l y (head1 (Jvm.Cond.code y bytes ml ret :: ws) rm) (fun a U => a = as ∧ Z.Warmed39 U.vm ∧ U.heap = h0) (fun _ _ _ _ _ => True) (fun _ U o U' => EndsAt U Q rm o U')
section Steps1
variable {p : Program} {l : Launch} {e : Env} {R : Room} {s : State} {m : MethodId} {args : Array Value} {below : List Frame} {meth : Method} {c : Code} {T : State} {locs : List Loc} {cells slots : Nat} {P : Outcome → State → Prop} {pc : Nat} {L L' : Array Slot} {st : List Value} {Z : State} {h h' : Heap} {a0 : Array Value} {rm : Room} {Q : Option Value → Heap → List Loc → Prop}
theorem Go.via {S S' : State} (k : ∀ t, Steps p.tables e below S' t → Steps p.tables e below S t) (g : Go p e below P S') : Go p e below P S := by
  obtain ⟨s2, o, h1, h2⟩ := g; exact ⟨s2, o, k _ h1, h2⟩
theorem Go.tr {S S' : State} (k : Steps p.tables e below S S') (g : Go p e below P S') : Go p e below P S := by
  obtain ⟨s2, o, h1, h2⟩ := g; exact ⟨s2, o, k.trans h1, h2⟩
theorem Ct.intro {y : MethodName} {bytes : ByteArray} {ml : Nat} {ret : Option FieldType} {ws : List Jvm.Cond} {as : Array Value} {h0 : Heap} (hpn : plainFor y = true) (L0 : Array Slot) (hef : ∀ m, entryFrame m as ml = mkF m 0 L0 [])
    (k : ∀ (p : Program) (e : Env) (s : State) (m : MethodId) (below : List Frame) (meth : Method) (c : Code) (T : State), Stand p l e rm s m as below meth c T [] 0 0 → p.tables.exec = Jvm.exec → Z.Warmed39 s.vm → c.code = bytes → c.maxLocals = ml → s.vm.findClass y.cls = some m.cls → meth.name = y.name → meth.sig.returnType = ret → meth.locks = false → T.heap = h0 → Go p e below (EndsAt s Q rm) (T.setTop (mkF m 0 L0 []))) :
    Ct l Z y bytes ml ret ws rm as h0 Q := by
  refine MetFree.of_bodySF hpn hisR ?_
  intro p e s m args below meth c s₁ Bd hml0 hP hK
  obtain ⟨rfl, hZ, hh⟩ := hP
  obtain ⟨s2, o, h1, h2, h3, h4⟩ := k p e s m below meth c s₁ (Stand.of_body Bd) Bd.exec hZ Bd.bytes hml0 (findClass_of_methodNamed Bd.named) (name_of_methodNamed Bd.named Bd.method).1 Bd.returns (BodyLoose.notSynchronized Bd) (by rw [← hh, Bd.state]; rfl)
  exact ⟨s2, o, castTop (hef m) h1, h2, h3, h4⟩
theorem retW (X : Stand p l e R s m args below meth c T locs cells slots) (hx : p.tables.exec = Jvm.exec) (hlk : meth.locks = false) {w : Value} {t : FieldType} {i : Instr} {rest : List Value} (hret : meth.sig.returnType = some t) (hn : narrow t w = w)
    (hi : (i = .ireturn ∧ (t = .int ∨ t = .boolean ∨ t = .byte ∨ t = .char ∨ t = .short) ∧ ∃ z, w = .int z) ∨ (i = .lreturn ∧ t = .long ∧ ∃ z, w = .long z) ∨ (i = .dreturn ∧ t = .double ∧ ∃ z, w = .double z) ∨ (i = .freturn ∧ t = .float ∧ ∃ z, w = .float z) ∨ (i = .areturn ∧ t.isReference = true ∧ w.isRef = true))
    (hd : decode c.code pc = .ok (i, 1)) (eT : T.heap = h) (hq : Q (some w) h locs) (hc : cells ≤ rm.cells) (hs : slots ≤ rm.slots) : Go p e below (EndsAt s Q rm) (T.setTop (mkF m pc L (w :: rest))) := by
  obtain ⟨fs, hr, hrun, hended, hW, hsame⟩ := X.leave (v := some w) (fun q => by rw [hret] at q; cases q) hlk
  refine ⟨_, _, retOut X hx hret hn hi hd hr, hrun, hended, _, _, rfl, ?_, ⟨_, rfl⟩, hW, hsame.mono hc hs⟩
  show Q (some w) T.heap locs
  rw [eT]; exact hq
theorem retI (X : Stand p l e R s m args below meth c T locs cells slots) (hx : p.tables.exec = Jvm.exec) (hlk : meth.locks = false) {z : Int32} {rest : List Value} (hret : meth.sig.returnType = some .int) (hd : decode c.code pc = .ok (.ireturn, 1)) (eT : T.heap = h) (hq : Q (some (.int z)) h locs) (hc : cells ≤ rm.cells) (hs : slots ≤ rm.slots) : Go p e below (EndsAt s Q rm) (T.setTop (mkF m pc L (.int z :: rest))) :=
  retW X hx hlk hret rfl (Or.inl ⟨rfl, Or.inl rfl, z, rfl⟩) hd eT hq hc hs
theorem retZ (X : Stand p l e R s m args below meth c T locs cells slots) (hx : p.tables.exec = Jvm.exec) (hlk : meth.locks = false) {z : Int32} {rest : List Value} (hret : meth.sig.returnType = some .boolean) (hd : decode c.code pc = .ok (.ireturn, 1)) (hn : narrow .boolean (.int z) = .int z) (eT : T.heap = h) (hq : Q (some (.int z)) h locs) (hc : cells ≤ rm.cells) (hs : slots ≤ rm.slots) : Go p e below (EndsAt s Q rm) (T.setTop (mkF m pc L (.int z :: rest))) :=
  retW X hx hlk hret hn (Or.inl ⟨rfl, Or.inr (Or.inl rfl), z, rfl⟩) hd eT hq hc hs
theorem retJ (X : Stand p l e R s m args below meth c T locs cells slots) (hx : p.tables.exec = Jvm.exec) (hlk : meth.locks = false) {z : Int64} {rest : List Value} (hret : meth.sig.returnType = some .long) (hd : decode c.code pc = .ok (.lreturn, 1)) (eT : T.heap = h) (hq : Q (some (.long z)) h locs) (hc : cells ≤ rm.cells) (hs : slots ≤ rm.slots) : Go p e below (EndsAt s Q rm) (T.setTop (mkF m pc L (.long z :: rest))) :=
  retW X hx hlk hret rfl (Or.inr (Or.inl ⟨rfl, rfl, z, rfl⟩)) hd eT hq hc hs
theorem retD (X : Stand p l e R s m args below meth c T locs cells slots) (hx : p.tables.exec = Jvm.exec) (hlk : meth.locks = false) {z : UInt64} {rest : List Value} (hret : meth.sig.returnType = some .double) (hd : decode c.code pc = .ok (.dreturn, 1)) (eT : T.heap = h) (hq : Q (some (.double z)) h locs) (hc : cells ≤ rm.cells) (hs : slots ≤ rm.slots) : Go p e below (EndsAt s Q rm) (T.setTop (mkF m pc L (.double z :: rest))) :=
  retW X hx hlk hret rfl (Or.inr (Or.inr (Or.inl ⟨rfl, rfl, z, rfl⟩))) hd eT hq hc hs
theorem retA (X : Stand p l e R s m args below meth c T locs cells slots) (hx : p.tables.exec = Jvm.exec) (hlk : meth.locks = false) {t : FieldType} {z : Addr} {rest : List Value} (hret : meth.sig.returnType = some t) (ht : t.isReference = true) (hn : narrow t (.ref z) = .ref z) (hd : decode c.code pc = .ok (.areturn, 1)) (eT : T.heap = h) (hq : Q (some (.ref z)) h locs) (hc : cells ≤ rm.cells) (hs : slots ≤ rm.slots) : Go p e below (EndsAt s Q rm) (T.setTop (mkF m pc L (.ref z :: rest))) :=
  retW X hx hlk hret hn (Or.inr (Or.inr (Or.inr (Or.inr ⟨rfl, ht, rfl⟩)))) hd eT hq hc hs
theorem retV (X : Stand p l e R s m args below meth c T locs cells slots) (hx : p.tables.exec = Jvm.exec) (hlk : meth.locks = false) (hret : meth.sig.returnType = none) (hd : decode c.code pc = .ok (.return_, 1)) (eT : T.heap = h) (hq : Q none h locs) (hc : cells ≤ rm.cells) (hs : slots ≤ rm.slots) : Go p e below (EndsAt s Q rm) (T.setTop (mkF m pc L [])) := by
  obtain ⟨fs, hr, hrun, hended, hW, hsame⟩ := X.leave (v := none) (fun _ => rfl) hlk
  refine ⟨_, _, X.returnOut hx hret hd hr, hrun, hended, _, _, rfl, ?_, ⟨_, rfl⟩, hW, hsame.mono hc hs⟩
  show Q none T.heap locs
  rw [eT]; exact hq
theorem s_iload (X : Stand p l e R s m args below meth c T locs cells slots) (hx : p.tables.exec = Jvm.exec) {k : Nat} {v : Int32} (hd : decode c.code pc = .ok (.iload k, 2)) (hl : L[k]? = some (.val (.int v))) (pc' : Nat) (hp : pc + 2 = pc') (g : Go p e below P (T.setTop (mkF m pc' L (.int v :: st)))) : Go p e below P (T.setTop (mkF m pc L (st))) := by
  subst hp; exact Go.via (fun _ k => XS.iload X.here hx rfl hd hl k) g
theorem s_iloadN (X : Stand p l e R s m args below meth c T locs cells slots) (hx : p.tables.exec = Jvm.exec) {k : Fin 4} {v : Int32} (hd : decode c.code pc = .ok (.iload_n k, 1)) (hl : L[k.val]? = some (.val (.int v))) (pc' : Nat) (hp : pc + 1 = pc') (g : Go p e below P (T.setTop (mkF m pc' L (.int v :: st)))) : Go p e below P (T.setTop (mkF m pc L (st))) := by
  subst hp; exact Go.via (fun _ k => XS.iloadN X.here hx rfl hd hl k) g
theorem s_istore (X : Stand p l e R s m args below meth c T locs cells slots) (hx : p.tables.exec = Jvm.exec) {k : Nat} {v : Int32} (hd : decode c.code pc = .ok (.istore k, 2)) (L' : Array Slot) (hl : storeLocals L k (.int v) = some L') (pc' : Nat) (hp : pc + 2 = pc') (g : Go p e below P (T.setTop (mkF m pc' L' (st)))) : Go p e below P (T.setTop (mkF m pc L (.int v :: st))) := by
  subst hp; exact Go.via (fun _ k => XS.istore X.here hx rfl hd rfl hl k) g
theorem s_istoreN (X : Stand p l e R s m args below meth c T locs cells slots) (hx : p.tables.exec = Jvm.exec) {k : Fin 4} {v : Int32} (hd : decode c.code pc = .ok (.istore_n k, 1)) (L' : Array Slot) (hl : storeLocals L k.val (.int v) = some L') (pc' : Nat) (hp : pc + 1 = pc') (g : Go p e below P (T.setTop (mkF m pc' L' (st)))) : Go p e below P (T.setTop (mkF m pc L (.int v :: st))) := by
  subst hp; exact Go.via (fun _ k => XS.istoreN X.here hx rfl hd rfl hl k) g
theorem s_lload (X : Stand p l e R s m args below meth c T locs cells slots) (hx : p.tables.exec = Jvm.exec) {k : Nat} {v : Int64} (hd : decode c.code pc = .ok (.lload k, 2)) (hl : L[k]? = some (.val (.long v))) (pc' : Nat) (hp : pc + 2 = pc') (g : Go p e below P (T.setTop (mkF m pc' L (.long v :: st)))) : Go p e below P (T.setTop (mkF m pc L (st))) := by
  subst hp; exact Go.via (fun _ k => XT.lload X.here hx rfl hd hl k) g
theorem s_lloadN (X : Stand p l e R s m args below meth c T locs cells slots) (hx : p.tables.exec = Jvm.exec) {k : Fin 4} {v : Int64} (hd : decode c.code pc = .ok (.lload_n k, 1)) (hl : L[k.val]? = some (.val (.long v))) (pc' : Nat) (hp : pc + 1 = pc') (g : Go p e below P (T.setTop (mkF m pc' L (.long v :: st)))) : Go p e below P (T.setTop (mkF m pc L (st))) := by
  subst hp; exact Go.via (fun _ k => XT.lloadN X.here hx rfl hd hl k) g
theorem s_lstore (X : Stand p l e R s m args below meth c T locs cells slots) (hx : p.tables.exec = Jvm.exec) {k : Nat} {v : Int64} (hd : decode c.code pc = .ok (.lstore k, 2)) (L' : Array Slot) (hl : storeLocals L k (.long v) = some L') (pc' : Nat) (hp : pc + 2 = pc') (g : Go p e below P (T.setTop (mkF m pc' L' (st)))) : Go p e below P (T.setTop (mkF m pc L (.long v :: st))) := by
  subst hp; exact Go.via (fun _ k => XT.lstore X.here hx rfl hd rfl hl k) g
theorem s_lstoreN (X : Stand p l e R s m args below meth c T locs cells slots) (hx : p.tables.exec = Jvm.exec) {k : Fin 4} {v : Int64} (hd : decode c.code pc = .ok (.lstore_n k, 1)) (L' : Array Slot) (hl : storeLocals L k.val (.long v) = some L') (pc' : Nat) (hp : pc + 1 = pc') (g : Go p e below P (T.setTop (mkF m pc' L' (st)))) : Go p e below P (T.setTop (mkF m pc L (.long v :: st))) := by
  subst hp; exact Go.via (fun _ k => XT.lstoreN X.here hx rfl hd rfl hl k) g
theorem s_dload (X : Stand p l e R s m args below meth c T locs cells slots) (hx : p.tables.exec = Jvm.exec) {k : Nat} {v : UInt64} (hd : decode c.code pc = .ok (.dload k, 2)) (hl : L[k]? = some (.val (.double v))) (pc' : Nat) (hp : pc + 2 = pc') (g : Go p e below P (T.setTop (mkF m pc' L (.double v :: st)))) : Go p e below P (T.setTop (mkF m pc L (st))) := by
  subst hp; exact Go.via (fun _ k => XS.dload X.here hx rfl hd hl k) g
theorem s_dloadN (X : Stand p l e R s m args below meth c T locs cells slots) (hx : p.tables.exec = Jvm.exec) {k : Fin 4} {v : UInt64} (hd : decode c.code pc = .ok (.dload_n k, 1)) (hl : L[k.val]? = some (.val (.double v))) (pc' : Nat) (hp : pc + 1 = pc') (g : Go p e below P (T.setTop (mkF m pc' L (.double v :: st)))) : Go p e below P (T.setTop (mkF m pc L (st))) := by
  subst hp; exact Go.via (fun _ k => XS.dloadN X.here hx rfl hd hl k) g
theorem s_dstore (X : Stand p l e R s m args below meth c T locs cells slots) (hx : p.tables.exec = Jvm.exec) {k : Nat} {v : UInt64} (hd : decode c.code pc = .ok (.dstore k, 2)) (L' : Array Slot) (hl : storeLocals L k (.double v) = some L') (pc' : Nat) (hp : pc + 2 = pc') (g : Go p e below P (T.setTop (mkF m pc' L' (st)))) : Go p e below P (T.setTop (mkF m pc L (.double v :: st))) := by
  subst hp; exact Go.via (fun _ k => XS.dstore X.here hx rfl hd rfl hl k) g
theorem s_dstoreN (X : Stand p l e R s m args below meth c T locs cells slots) (hx : p.tables.exec = Jvm.exec) {k : Fin 4} {v : UInt64} (hd : decode c.code pc = .ok (.dstore_n k, 1)) (L' : Array Slot) (hl : storeLocals L k.val (.double v) = some L') (pc' : Nat) (hp : pc + 1 = pc') (g : Go p e below P (T.setTop (mkF m pc' L' (st)))) : Go p e below P (T.setTop (mkF m pc L (.double v :: st))) := by
  subst hp; exact Go.via (fun _ k => XS.dstoreN X.here hx rfl hd rfl hl k) g
theorem s_aload (X : Stand p l e R s m args below meth c T locs cells slots) (hx : p.tables.exec = Jvm.exec) {k : Nat} {v : Value} (hd : decode c.code pc = .ok (.aload k, 2)) (hl : L[k]? = some (.val v)) (hv : v.isRef = true) (pc' : Nat) (hp : pc + 2 = pc') (g : Go p e below P (T.setTop (mkF m pc' L (v :: st)))) : Go p e below P (T.setTop (mkF m pc L (st))) := by
  subst hp; exact Go.via (fun _ k => XS.aload X.here hx rfl hd hl hv k) g
theorem s_aloadN (X : Stand p l e R s m args below meth c T locs cells slots) (hx : p.tables.exec = Jvm.exec) {k : Fin 4} {v : Value} (hd : decode c.code pc = .ok (.aload_n k, 1)) (hl : L[k.val]? = some (.val v)) (hv : v.isRef = true) (pc' : Nat) (hp : pc + 1 = pc') (g : Go p e below P (T.setTop (mkF m pc' L (v :: st)))) : Go p e below P (T.setTop (mkF m pc L (st))) := by
  subst hp; exact Go.via (fun _ k => XS.aloadN X.here hx rfl hd hl hv k) g
theorem s_astore (X : Stand p l e R s m args below meth c T locs cells slots) (hx : p.tables.exec = Jvm.exec) {k : Nat} {v : Value} (hd : decode c.code pc = .ok (.astore k, 2)) (hv : v.isRef = true) (L' : Array Slot) (hl : storeLocals L k v = some L') (pc' : Nat) (hp : pc + 2 = pc') (g : Go p e below P (T.setTop (mkF m pc' L' (st)))) : Go p e below P (T.setTop (mkF m pc L (v :: st))) := by
  subst hp; exact Go.via (fun _ k => XS.astore X.here hx rfl hd rfl hv hl k) g
theorem s_astoreN (X : Stand p l e R s m args below meth c T locs cells slots) (hx : p.tables.exec = Jvm.exec) {k : Fin 4} {v : Value} (hd : decode c.code pc = .ok (.astore_n k, 1)) (hv : v.isRef = true) (L' : Array Slot) (hl : storeLocals L k.val v = some L') (pc' : Nat) (hp : pc + 1 = pc') (g : Go p e below P (T.setTop (mkF m pc' L' (st)))) : Go p e below P (T.setTop (mkF m pc L (v :: st))) := by
  subst hp; exact Go.via (fun _ k => XS.astoreN X.here hx rfl hd rfl hv hl k) g
theorem s_iconst (X : Stand p l e R s m args below meth c T locs cells slots) (hx : p.tables.exec = Jvm.exec) {i : Int} (hd : decode c.code pc = .ok (.iconst i, 1)) (v : Int32) (hv : Int32.ofInt i = v) (pc' : Nat) (hp : pc + 1 = pc') (g : Go p e below P (T.setTop (mkF m pc' L (.int v :: st)))) : Go p e below P (T.setTop (mkF m pc L (st))) := by
  subst hp hv; exact Go.via (fun _ k => XS.iconst X.here hx rfl hd k) g
theorem s_bipush (X : Stand p l e R s m args below meth c T locs cells slots) (hx : p.tables.exec = Jvm.exec) {i : Int} (hd : decode c.code pc = .ok (.bipush i, 2)) (v : Int32) (hv : (Int8.ofInt i).toInt32 = v) (pc' : Nat) (hp : pc + 2 = pc') (g : Go p e below P (T.setTop (mkF m pc' L (.int v :: st)))) : Go p e below P (T.setTop (mkF m pc L (st))) := by
  subst hp hv; exact Go.via (fun _ k => XS.bipush X.here hx rfl hd k) g
theorem s_sipush (X : Stand p l e R s m args below meth c T locs cells slots) (hx : p.tables.exec = Jvm.exec) {i : Int} (hd : decode c.code pc = .ok (.sipush i, 3)) (v : Int32) (hv : (Int16.ofInt i).toInt32 = v) (pc' : Nat) (hp : pc + 3 = pc') (g : Go p e below P (T.setTop (mkF m pc' L (.int v :: st)))) : Go p e below P (T.setTop (mkF m pc L (st))) := by
  subst hp hv; exact Go.via (fun _ k => XS.sipush X.here hx rfl hd k) g
theorem s_lconst (X : Stand p l e R s m args below meth c T locs cells slots) (hx : p.tables.exec = Jvm.exec) {i : Fin 2} (hd : decode c.code pc = .ok (.lconst i, 1)) (v : Int64) (hv : Int64.ofNat i = v) (pc' : Nat) (hp : pc + 1 = pc') (g : Go p e below P (T.setTop (mkF m pc' L (.long v :: st)))) : Go p e below P (T.setTop (mkF m pc L (st))) := by
  subst hp; exact Go.via (fun _ k => XT.lconstV X.here hx rfl v hd hv k) g
theorem s_null (X : Stand p l e R s m args below meth c T locs cells slots) (hx : p.tables.exec = Jvm.exec)  (hd : decode c.code pc = .ok (.aconst_null, 1))  (pc' : Nat) (hp : pc + 1 = pc') (g : Go p e below P (T.setTop (mkF m pc' L (.null :: st)))) : Go p e below P (T.setTop (mkF m pc L (st))) := by
  subst hp; exact Go.via (fun _ k => XS.aconstNull X.here hx rfl hd k) g
theorem s_dconst0 (X : Stand p l e R s m args below meth c T locs cells slots) (hx : p.tables.exec = Jvm.exec)  (hd : decode c.code pc = .ok (.dconst 0, 1)) (v : UInt64) (hv : FP.dconst0 = v) (pc' : Nat) (hp : pc + 1 = pc') (g : Go p e below P (T.setTop (mkF m pc' L (.double v :: st)))) : Go p e below P (T.setTop (mkF m pc L (st))) := by
  subst hp; exact Go.via (fun _ k => XS.dconst0 X.here hx rfl hd hv k) g
theorem s_dconst1 (X : Stand p l e R s m args below meth c T locs cells slots) (hx : p.tables.exec = Jvm.exec)  (hd : decode c.code pc = .ok (.dconst 1, 1)) (v : UInt64) (hv : FP.dconst1 = v) (pc' : Nat) (hp : pc + 1 = pc') (g : Go p e below P (T.setTop (mkF m pc' L (.double v :: st)))) : Go p e below P (T.setTop (mkF m pc L (st))) := by
  subst hp; exact Go.via (fun _ k => XS.dconst1 X.here hx rfl hd hv k) g
theorem s_ldcI (X : Stand p l e R s m args below meth c T locs cells slots) (hx : p.tables.exec = Jvm.exec) {i : Nat} {v : Int32} (hd : decode c.code pc = .ok (.ldc i, 2)) (hZ : Z.Warmed39 s.vm) {own : String} (hown : s.vm.findClass own = some m.cls) (w : (Cond.constant own i v).before a0 Z = true) (pc' : Nat) (hp : pc + 2 = pc') (g : Go p e below P (T.setTop (mkF m pc' L (.int v :: st)))) : Go p e below P (T.setTop (mkF m pc L (st))) := by
  subst hp; exact Go.via (fun _ k => X.ldcI hx hown (mvT hZ w) rfl hd k) g
theorem s_ldc2J (X : Stand p l e R s m args below meth c T locs cells slots) (hx : p.tables.exec = Jvm.exec) {i : Nat} {v : Int64} (hd : decode c.code pc = .ok (.ldc2_w i, 3)) (hZ : Z.Warmed39 s.vm) {own : String} (hown : s.vm.findClass own = some m.cls) (w : (Cond.constantLong own i v).before a0 Z = true) (pc' : Nat) (hp : pc + 3 = pc') (g : Go p e below P (T.setTop (mkF m pc' L (.long v :: st)))) : Go p e below P (T.setTop (mkF m pc L (st))) := by
  subst hp; exact Go.via (fun _ k => X.ldc2J hx hown (mvT hZ w) rfl hd k) g
theorem s_ldc2D (X : Stand p l e R s m args below meth c T locs cells slots) (hx : p.tables.exec = Jvm.exec) {i : Nat} {v : UInt64} (hd : decode c.code pc = .ok (.ldc2_w i, 3)) (hZ : Z.Warmed39 s.vm) {own : String} (hown : s.vm.findClass own = some m.cls) (w : (Cond.constantDouble own i v).before a0 Z = true) (pc' : Nat) (hp : pc + 3 = pc') (g : Go p e below P (T.setTop (mkF m pc' L (.double v :: st)))) : Go p e below P (T.setTop (mkF m pc L (st))) := by
  subst hp; exact Go.via (fun _ k => X.ldc2DoubleC hx hown (mvT hZ w) (g := mkF m pc L st) rfl hd _ k) g
theorem s_iadd (X : Stand p l e R s m args below meth c T locs cells slots) (hx : p.tables.exec = Jvm.exec) {x y : Int32} (hd : decode c.code pc = .ok (.iadd, 1)) (v : Int32) (hv : x + y = v) (pc' : Nat) (hp : pc + 1 = pc') (g : Go p e below P (T.setTop (mkF m pc' L (.int v :: st)))) : Go p e below P (T.setTop (mkF m pc L (.int y :: .int x :: st))) := by
  subst hp hv; exact Go.via (fun _ k => XS.iadd X.here hx rfl hd rfl k) g
theorem s_isub (X : Stand p l e R s m args below meth c T locs cells slots) (hx : p.tables.exec = Jvm.exec) {x y : Int32} (hd : decode c.code pc = .ok (.isub, 1)) (v : Int32) (hv : x - y = v) (pc' : Nat) (hp : pc + 1 = pc') (g : Go p e below P (T.setTop (mkF m pc' L (.int v :: st)))) : Go p e below P (T.setTop (mkF m pc L (.int y :: .int x :: st))) := by
  subst hp hv; exact Go.via (fun _ k => XS.isub X.here hx rfl hd rfl k) g
theorem s_imul (X : Stand p l e R s m args below meth c T locs cells slots) (hx : p.tables.exec = Jvm.exec) {x y : Int32} (hd : decode c.code pc = .ok (.imul, 1)) (v : Int32) (hv : x * y = v) (pc' : Nat) (hp : pc + 1 = pc') (g : Go p e below P (T.setTop (mkF m pc' L (.int v :: st)))) : Go p e below P (T.setTop (mkF m pc L (.int y :: .int x :: st))) := by
  subst hp hv; exact Go.via (fun _ k => XS.imul X.here hx rfl hd rfl k) g
theorem s_iand (X : Stand p l e R s m args below meth c T locs cells slots) (hx : p.tables.exec = Jvm.exec) {x y : Int32} (hd : decode c.code pc = .ok (.iand, 1)) (v : Int32) (hv : x &&& y = v) (pc' : Nat) (hp : pc + 1 = pc') (g : Go p e below P (T.setTop (mkF m pc' L (.int v :: st)))) : Go p e below P (T.setTop (mkF m pc L (.int y :: .int x :: st))) := by
  subst hp hv; exact Go.via (fun _ k => XS.iand X.here hx rfl hd rfl k) g
theorem s_ixor (X : Stand p l e R s m args below meth c T locs cells slots) (hx : p.tables.exec = Jvm.exec) {x y : Int32} (hd : decode c.code pc = .ok (.ixor, 1)) (v : Int32) (hv : x ^^^ y = v) (pc' : Nat) (hp : pc + 1 = pc') (g : Go p e below P (T.setTop (mkF m pc' L (.int v :: st)))) : Go p e below P (T.setTop (mkF m pc L (.int y :: .int x :: st))) := by
  subst hp hv; exact Go.via (fun _ k => XT.ixor X.here hx rfl hd rfl k) g
theorem s_ior (X : Stand p l e R s m args below meth c T locs cells slots) (hx : p.tables.exec = Jvm.exec) {x y : Int32} (hd : decode c.code pc = .ok (.ior, 1)) (v : Int32) (hv : x ||| y = v) (pc' : Nat) (hp : pc + 1 = pc') (g : Go p e below P (T.setTop (mkF m pc' L (.int v :: st)))) : Go p e below P (T.setTop (mkF m pc L (.int y :: .int x :: st))) := by
  subst hp hv; exact Go.via (fun _ k => XT.ior X.here hx rfl hd rfl k) g
theorem s_ishl (X : Stand p l e R s m args below meth c T locs cells slots) (hx : p.tables.exec = Jvm.exec) {x y : Int32} (hd : decode c.code pc = .ok (.ishl, 1)) (v : Int32) (hv : x <<< (y &&& 31) = v) (pc' : Nat) (hp : pc + 1 = pc') (g : Go p e below P (T.setTop (mkF m pc' L (.int v :: st)))) : Go p e below P (T.setTop (mkF m pc L (.int y :: .int x :: st))) := by
  subst hp hv; exact Go.via (fun _ k => XT.ishl X.here hx rfl hd rfl k) g
theorem s_ishr (X : Stand p l e R s m args below meth c T locs cells slots) (hx : p.tables.exec = Jvm.exec) {x y : Int32} (hd : decode c.code pc = .ok (.ishr, 1)) (v : Int32) (hv : x >>> (y &&& 31) = v) (pc' : Nat) (hp : pc + 1 = pc') (g : Go p e below P (T.setTop (mkF m pc' L (.int v :: st)))) : Go p e below P (T.setTop (mkF m pc L (.int y :: .int x :: st))) := by
  subst hp hv; exact Go.via (fun _ k => XT.ishr X.here hx rfl hd rfl k) g
theorem s_iushr (X : Stand p l e R s m args below meth c T locs cells slots) (hx : p.tables.exec = Jvm.exec) {x y : Int32} (hd : decode c.code pc = .ok (.iushr, 1)) (v : Int32) (hv : XT.ushr x y = v) (pc' : Nat) (hp : pc + 1 = pc') (g : Go p e below P (T.setTop (mkF m pc' L (.int v :: st)))) : Go p e below P (T.setTop (mkF m pc L (.int y :: .int x :: st))) := by
  subst hp hv; exact Go.via (fun _ k => XT.iushr X.here hx rfl hd rfl k) g
theorem s_idiv (X : Stand p l e R s m args below meth c T locs cells slots) (hx : p.tables.exec = Jvm.exec) {x y : Int32} (hd : decode c.code pc = .ok (.idiv, 1)) (hy : y ≠ 0) (v : Int32) (hv : x / y = v) (pc' : Nat) (hp : pc + 1 = pc') (g : Go p e below P (T.setTop (mkF m pc' L (.int v :: st)))) : Go p e below P (T.setTop (mkF m pc L (.int y :: .int x :: st))) := by
  subst hp hv; exact Go.via (fun _ k => XS.idiv X.here hx rfl hd rfl hy k) g
theorem s_irem (X : Stand p l e R s m args below meth c T locs cells slots) (hx : p.tables.exec = Jvm.exec) {x y : Int32} (hd : decode c.code pc = .ok (.irem, 1)) (hy : y ≠ 0) (v : Int32) (hv : x % y = v) (pc' : Nat) (hp : pc + 1 = pc') (g : Go p e below P (T.setTop (mkF m pc' L (.int v :: st)))) : Go p e below P (T.setTop (mkF m pc L (.int y :: .int x :: st))) := by
  subst hp hv; exact Go.via (fun _ k => RoadKit.iremM X hx rfl hd rfl hy k) g
theorem s_ineg (X : Stand p l e R s m args below meth c T locs cells slots) (hx : p.tables.exec = Jvm.exec) {x : Int32} (hd : decode c.code pc = .ok (.ineg, 1)) (v : Int32) (hv : -x = v) (pc' : Nat) (hp : pc + 1 = pc') (g : Go p e below P (T.setTop (mkF m pc' L (.int v :: st)))) : Go p e below P (T.setTop (mkF m pc L (.int x :: st))) := by
  subst hp hv; exact Go.via (fun _ k => XS.ineg X.here hx rfl hd rfl k) g
theorem s_ladd (X : Stand p l e R s m args below meth c T locs cells slots) (hx : p.tables.exec = Jvm.exec) {x y : Int64} (hd : decode c.code pc = .ok (.ladd, 1)) (v : Int64) (hv : x + y = v) (pc' : Nat) (hp : pc + 1 = pc') (g : Go p e below P (T.setTop (mkF m pc' L (.long v :: st)))) : Go p e below P (T.setTop (mkF m pc L (.long y :: .long x :: st))) := by
  subst hp hv; exact Go.via (fun _ k => XT.ladd X.here hx rfl hd rfl k) g
theorem s_lsub (X : Stand p l e R s m args below meth c T locs cells slots) (hx : p.tables.exec = Jvm.exec) {x y : Int64} (hd : decode c.code pc = .ok (.lsub, 1)) (v : Int64) (hv : x - y = v) (pc' : Nat) (hp : pc + 1 = pc') (g : Go p e below P (T.setTop (mkF m pc' L (.long v :: st)))) : Go p e below P (T.setTop (mkF m pc L (.long y :: .long x :: st))) := by
  subst hp hv; exact Go.via (fun _ k => XT.lsub X.here hx rfl hd rfl k) g
theorem s_lmul (X : Stand p l e R s m args below meth c T locs cells slots) (hx : p.tables.exec = Jvm.exec) {x y : Int64} (hd : decode c.code pc = .ok (.lmul, 1)) (v : Int64) (hv : x * y = v) (pc' : Nat) (hp : pc + 1 = pc') (g : Go p e below P (T.setTop (mkF m pc' L (.long v :: st)))) : Go p e below P (T.setTop (mkF m pc L (.long y :: .long x :: st))) := by
  subst hp hv; exact Go.via (fun _ k => XT.lmul X.here hx rfl hd rfl k) g
theorem s_land (X : Stand p l e R s m args below meth c T locs cells slots) (hx : p.tables.exec = Jvm.exec) {x y : Int64} (hd : decode c.code pc = .ok (.land, 1)) (v : Int64) (hv : x &&& y = v) (pc' : Nat) (hp : pc + 1 = pc') (g : Go p e below P (T.setTop (mkF m pc' L (.long v :: st)))) : Go p e below P (T.setTop (mkF m pc L (.long y :: .long x :: st))) := by
  subst hp hv; exact Go.via (fun _ k => XT.land X.here hx rfl hd rfl k) g
theorem s_lor (X : Stand p l e R s m args below meth c T locs cells slots) (hx : p.tables.exec = Jvm.exec) {x y : Int64} (hd : decode c.code pc = .ok (.lor, 1)) (v : Int64) (hv : x ||| y = v) (pc' : Nat) (hp : pc + 1 = pc') (g : Go p e below P (T.setTop (mkF m pc' L (.long v :: st)))) : Go p e below P (T.setTop (mkF m pc L (.long y :: .long x :: st))) := by
  subst hp hv; exact Go.via (fun _ k => XT.lor X.here hx rfl hd rfl k) g
theorem s_lxor (X : Stand p l e R s m args below meth c T locs cells slots) (hx : p.tables.exec = Jvm.exec) {x y : Int64} (hd : decode c.code pc = .ok (.lxor, 1)) (v : Int64) (hv : x ^^^ y = v) (pc' : Nat) (hp : pc + 1 = pc') (g : Go p e below P (T.setTop (mkF m pc' L (.long v :: st)))) : Go p e below P (T.setTop (mkF m pc L (.long y :: .long x :: st))) := by
  subst hp hv; exact Go.via (fun _ k => XT.lxor X.here hx rfl hd rfl k) g
theorem s_ldiv (X : Stand p l e R s m args below meth c T locs cells slots) (hx : p.tables.exec = Jvm.exec) {x y : Int64} (hd : decode c.code pc = .ok (.ldiv, 1)) (hy : y ≠ 0) (v : Int64) (hv : x / y = v) (pc' : Nat) (hp : pc + 1 = pc') (g : Go p e below P (T.setTop (mkF m pc' L (.long v :: st)))) : Go p e below P (T.setTop (mkF m pc L (.long y :: .long x :: st))) := by
  subst hp hv; exact Go.via (fun _ k => XT.ldiv X.here hx rfl hd rfl hy k) g
theorem s_lrem (X : Stand p l e R s m args below meth c T locs cells slots) (hx : p.tables.exec = Jvm.exec) {x y : Int64} (hd : decode c.code pc = .ok (.lrem, 1)) (hy : y ≠ 0) (v : Int64) (hv : x - (x / y) * y = v) (pc' : Nat) (hp : pc + 1 = pc') (g : Go p e below P (T.setTop (mkF m pc' L (.long v :: st)))) : Go p e below P (T.setTop (mkF m pc L (.long y :: .long x :: st))) := by
  subst hp hv; exact Go.via (fun _ k => XT.lrem X.here hx rfl hd rfl hy k) g
theorem s_lneg (X : Stand p l e R s m args below meth c T locs cells slots) (hx : p.tables.exec = Jvm.exec) {x : Int64} (hd : decode c.code pc = .ok (.lneg, 1)) (v : Int64) (hv : -x = v) (pc' : Nat) (hp : pc + 1 = pc') (g : Go p e below P (T.setTop (mkF m pc' L (.long v :: st)))) : Go p e below P (T.setTop (mkF m pc L (.long x :: st))) := by
  subst hp hv; exact Go.via (fun _ k => XT.lneg X.here hx rfl hd rfl k) g
theorem sh64 (y : Int32) : (y.toInt64 &&& 63) = (y &&& 0x3f).toInt64 := by rw [Int32.toInt64_and]; rfl
theorem s_lshl (X : Stand p l e R s m args below meth c T locs cells slots) (hx : p.tables.exec = Jvm.exec) {x : Int64} {y : Int32} (hd : decode c.code pc = .ok (.lshl, 1)) (v : Int64) (hv : x <<< (y &&& 0x3f).toInt64 = v) (pc' : Nat) (hp : pc + 1 = pc') (g : Go p e below P (T.setTop (mkF m pc' L (.long v :: st)))) : Go p e below P (T.setTop (mkF m pc L (.int y :: .long x :: st))) := by
  subst hp hv; exact Go.via (fun _ k => XT.lshl X.here hx rfl hd rfl (by rw [sh64]; exact k)) g
theorem s_lshr (X : Stand p l e R s m args below meth c T locs cells slots) (hx : p.tables.exec = Jvm.exec) {x : Int64} {y : Int32} (hd : decode c.code pc = .ok (.lshr, 1)) (v : Int64) (hv : x >>> (y &&& 0x3f).toInt64 = v) (pc' : Nat) (hp : pc + 1 = pc') (g : Go p e below P (T.setTop (mkF m pc' L (.long v :: st)))) : Go p e below P (T.setTop (mkF m pc L (.int y :: .long x :: st))) := by
  subst hp hv; exact Go.via (fun _ k => XT.lshr X.here hx rfl hd rfl (by rw [sh64]; exact k)) g
theorem s_lushr (X : Stand p l e R s m args below meth c T locs cells slots) (hx : p.tables.exec = Jvm.exec) {x : Int64} {y : Int32} (hd : decode c.code pc = .ok (.lushr, 1)) (v : Int64) (hv : XT.ushrL x y = v) (pc' : Nat) (hp : pc + 1 = pc') (g : Go p e below P (T.setTop (mkF m pc' L (.long v :: st)))) : Go p e below P (T.setTop (mkF m pc L (.int y :: .long x :: st))) := by
  subst hp hv; exact Go.via (fun _ k => XT.lushr X.here hx rfl hd rfl k) g
theorem s_i2l (X : Stand p l e R s m args below meth c T locs cells slots) (hx : p.tables.exec = Jvm.exec) {x : Int32} (hd : decode c.code pc = .ok (.i2l, 1)) (v : Int64) (hv : x.toInt64 = v) (pc' : Nat) (hp : pc + 1 = pc') (g : Go p e below P (T.setTop (mkF m pc' L (.long v :: st)))) : Go p e below P (T.setTop (mkF m pc L (.int x :: st))) := by
  subst hp hv; exact Go.via (fun _ k => XT.i2l X.here hx rfl hd rfl k) g
theorem s_l2i (X : Stand p l e R s m args below meth c T locs cells slots) (hx : p.tables.exec = Jvm.exec) {x : Int64} (hd : decode c.code pc = .ok (.l2i, 1)) (v : Int32) (hv : x.toInt32 = v) (pc' : Nat) (hp : pc + 1 = pc') (g : Go p e below P (T.setTop (mkF m pc' L (.int v :: st)))) : Go p e below P (T.setTop (mkF m pc L (.long x :: st))) := by
  subst hp hv; exact Go.via (fun _ k => XT.l2i X.here hx rfl hd rfl k) g
theorem s_i2b (X : Stand p l e R s m args below meth c T locs cells slots) (hx : p.tables.exec = Jvm.exec) {x : Int32} (hd : decode c.code pc = .ok (.i2b, 1)) (v : Int32) (hv : x.toInt8.toInt32 = v) (pc' : Nat) (hp : pc + 1 = pc') (g : Go p e below P (T.setTop (mkF m pc' L (.int v :: st)))) : Go p e below P (T.setTop (mkF m pc L (.int x :: st))) := by
  subst hp hv; exact Go.via (fun _ k => XT.i2b X.here hx rfl hd rfl k) g
theorem s_i2s (X : Stand p l e R s m args below meth c T locs cells slots) (hx : p.tables.exec = Jvm.exec) {x : Int32} (hd : decode c.code pc = .ok (.i2s, 1)) (v : Int32) (hv : x.toInt16.toInt32 = v) (pc' : Nat) (hp : pc + 1 = pc') (g : Go p e below P (T.setTop (mkF m pc' L (.int v :: st)))) : Go p e below P (T.setTop (mkF m pc L (.int x :: st))) := by
  subst hp hv; exact Go.via (fun _ k => XT.i2s X.here hx rfl hd rfl k) g
theorem s_i2d (X : Stand p l e R s m args below meth c T locs cells slots) (hx : p.tables.exec = Jvm.exec) {x : Int32} (hd : decode c.code pc = .ok (.i2d, 1)) (v : UInt64) (hv : FP.i2d x = v) (pc' : Nat) (hp : pc + 1 = pc') (g : Go p e below P (T.setTop (mkF m pc' L (.double v :: st)))) : Go p e below P (T.setTop (mkF m pc L (.int x :: st))) := by
  subst hp; exact Go.via (fun _ k => XS.i2dS X.here hx rfl hd rfl hv k) g
theorem s_l2d (X : Stand p l e R s m args below meth c T locs cells slots) (hx : p.tables.exec = Jvm.exec) {x : Int64} (hd : decode c.code pc = .ok (.l2d, 1)) (v : UInt64) (hv : FP.l2d x = v) (pc' : Nat) (hp : pc + 1 = pc') (g : Go p e below P (T.setTop (mkF m pc' L (.double v :: st)))) : Go p e below P (T.setTop (mkF m pc L (.long x :: st))) := by
  subst hp; exact Go.via (fun _ k => XS.l2dS X.here hx rfl hd rfl hv k) g
theorem s_dneg (X : Stand p l e R s m args below meth c T locs cells slots) (hx : p.tables.exec = Jvm.exec) {x : UInt64} (hd : decode c.code pc = .ok (.dneg, 1)) (v : UInt64) (hv : FP.dneg x = v) (pc' : Nat) (hp : pc + 1 = pc') (g : Go p e below P (T.setTop (mkF m pc' L (.double v :: st)))) : Go p e below P (T.setTop (mkF m pc L (.double x :: st))) := by
  subst hp; exact Go.via (fun _ k => XS.dnegS X.here hx rfl hd rfl hv k) g
theorem s_dadd (X : Stand p l e R s m args below meth c T locs cells slots) (hx : p.tables.exec = Jvm.exec) {x y : UInt64} (hd : decode c.code pc = .ok (.dadd, 1)) (v : UInt64) (hv : FP.dadd x y = v) (hn : NoNaN64 v) (pc' : Nat) (hp : pc + 1 = pc') (g : Go p e below P (T.setTop (mkF m pc' L (.double v :: st)))) : Go p e below P (T.setTop (mkF m pc L (.double y :: .double x :: st))) := by
  subst hp hv; exact Go.via (fun _ k => XS.daddS X.here hx rfl hd rfl hn rfl k) g
theorem s_dsub (X : Stand p l e R s m args below meth c T locs cells slots) (hx : p.tables.exec = Jvm.exec) {x y : UInt64} (hd : decode c.code pc = .ok (.dsub, 1)) (v : UInt64) (hv : FP.dsub x y = v) (hn : NoNaN64 v) (pc' : Nat) (hp : pc + 1 = pc') (g : Go p e below P (T.setTop (mkF m pc' L (.double v :: st)))) : Go p e below P (T.setTop (mkF m pc L (.double y :: .double x :: st))) := by
  subst hp hv; exact Go.via (fun _ k => XS.dsubS X.here hx rfl hd rfl hn rfl k) g
theorem s_dmul (X : Stand p l e R s m args below meth c T locs cells slots) (hx : p.tables.exec = Jvm.exec) {x y : UInt64} (hd : decode c.code pc = .ok (.dmul, 1)) (v : UInt64) (hv : FP.dmul x y = v) (hn : NoNaN64 v) (pc' : Nat) (hp : pc + 1 = pc') (g : Go p e below P (T.setTop (mkF m pc' L (.double v :: st)))) : Go p e below P (T.setTop (mkF m pc L (.double y :: .double x :: st))) := by
  subst hp hv; exact Go.via (fun _ k => XS.dmulS X.here hx rfl hd rfl hn rfl k) g
theorem s_ddiv (X : Stand p l e R s m args below meth c T locs cells slots) (hx : p.tables.exec = Jvm.exec) {x y : UInt64} (hd : decode c.code pc = .ok (.ddiv, 1)) (v : UInt64) (hv : FP.ddiv x y = v) (hn : NoNaN64 v) (pc' : Nat) (hp : pc + 1 = pc') (g : Go p e below P (T.setTop (mkF m pc' L (.double v :: st)))) : Go p e below P (T.setTop (mkF m pc L (.double y :: .double x :: st))) := by
  subst hp hv; exact Go.via (fun _ k => XS.ddivS X.here hx rfl hd rfl hn rfl k) g
theorem s_dcmp (X : Stand p l e R s m args below meth c T locs cells slots) (hx : p.tables.exec = Jvm.exec) {x y : UInt64} {o : CmpOp} (hd : decode c.code pc = .ok (.dcmp o, 1)) (v : Int32) (hv : cmpValue (FP.dcmp x y) o = v) (pc' : Nat) (hp : pc + 1 = pc') (g : Go p e below P (T.setTop (mkF m pc' L (.int v :: st)))) : Go p e below P (T.setTop (mkF m pc L (.double y :: .double x :: st))) := by
  subst hp; exact Go.via (fun _ k => XS.dcmpS X.here hx rfl hd rfl hv k) g
theorem s_lcmp (X : Stand p l e R s m args below meth c T locs cells slots) (hx : p.tables.exec = Jvm.exec) {x y : Int64} (hd : decode c.code pc = .ok (.lcmp, 1)) (v : Int32) (hv : XT.cmpL x y = v) (pc' : Nat) (hp : pc + 1 = pc') (g : Go p e below P (T.setTop (mkF m pc' L (.int v :: st)))) : Go p e below P (T.setTop (mkF m pc L (.long y :: .long x :: st))) := by
  subst hp hv; exact Go.via (fun _ k => XT.lcmp X.here hx rfl hd rfl k) g
theorem s_dup (X : Stand p l e R s m args below meth c T locs cells slots) (hx : p.tables.exec = Jvm.exec) {x : Value} (hd : decode c.code pc = .ok (.dup, 1)) (hc : x.category = 1) (pc' : Nat) (hp : pc + 1 = pc') (g : Go p e below P (T.setTop (mkF m pc' L (x :: x :: st)))) : Go p e below P (T.setTop (mkF m pc L (x :: st))) := by
  subst hp; exact Go.via (fun _ k => XS.dup X.here hx rfl hd rfl hc k) g
theorem s_pop (X : Stand p l e R s m args below meth c T locs cells slots) (hx : p.tables.exec = Jvm.exec) {x : Value} (hd : decode c.code pc = .ok (.pop, 1)) (hc : x.category = 1) (pc' : Nat) (hp : pc + 1 = pc') (g : Go p e below P (T.setTop (mkF m pc' L (st)))) : Go p e below P (T.setTop (mkF m pc L (x :: st))) := by
  subst hp; exact Go.via (fun _ k => XT.pop X.here hx rfl hd rfl hc k) g
theorem s_dupX1 (X : Stand p l e R s m args below meth c T locs cells slots) (hx : p.tables.exec = Jvm.exec) {x y : Value} (hd : decode c.code pc = .ok (.dup_x1, 1)) (hc : x.category = 1) (hc' : y.category = 1) (pc' : Nat) (hp : pc + 1 = pc') (g : Go p e below P (T.setTop (mkF m pc' L (x :: y :: x :: st)))) : Go p e below P (T.setTop (mkF m pc L (x :: y :: st))) := by
  subst hp; exact Go.via (fun _ k => XT.dupX1 X.here hx rfl hd rfl hc hc' k) g
theorem s_dup2 (X : Stand p l e R s m args below meth c T locs cells slots) (hx : p.tables.exec = Jvm.exec) {x y : Value} (hd : decode c.code pc = .ok (.dup2, 1)) (hc : x.category = 1) (hc' : y.category = 1) (pc' : Nat) (hp : pc + 1 = pc') (g : Go p e below P (T.setTop (mkF m pc' L (x :: y :: x :: y :: st)))) : Go p e below P (T.setTop (mkF m pc L (x :: y :: st))) := by
  subst hp; exact Go.via (fun _ k => XT.dup2 X.here hx rfl hd rfl hc hc' k) g
theorem s_iinc (X : Stand p l e R s m args below meth c T locs cells slots) (hx : p.tables.exec = Jvm.exec) {k : Nat} {cst : Int} {x : Int32} (hd : decode c.code pc = .ok (.iinc k cst, 3)) (v : Int32) (hv : x + Int32.ofInt cst = v) (hl : L[k]? = some (.val (.int x))) (L' : Array Slot) (hl' : storeLocals L k (.int v) = some L') (pc' : Nat) (hp : pc + 3 = pc') (g : Go p e below P (T.setTop (mkF m pc' L' (st)))) : Go p e below P (T.setTop (mkF m pc L (st))) := by
  subst hp hv; exact Go.via (fun _ k => XS.iinc X.here hx rfl hd hl hl' k) g
theorem s_goto (X : Stand p l e R s m args below meth c T locs cells slots) (hx : p.tables.exec = Jvm.exec) {o : Int} (hd : decode c.code pc = .ok (.goto o, 3)) (pc' : Nat) (ho : 0 ≤ (pc : Int) + o) (hp : ((pc : Int) + o).toNat = pc') (g : Go p e below P (T.setTop (mkF m pc' L st))) : Go p e below P (T.setTop (mkF m pc L st)) := Go.via (fun _ k => XS.goto X.here hx rfl rfl hd ho hp k) g
theorem s_ifY (X : Stand p l e R s m args below meth c T locs cells slots) (hx : p.tables.exec = Jvm.exec) {cd : ClassFile.Cond} {o : Int} {x : Int32} (hd : decode c.code pc = .ok (.ifCond cd o, 3)) (hc : ifCond.holds cd x = true) (pc' : Nat) (ho : 0 ≤ (pc : Int) + o) (hp : ((pc : Int) + o).toNat = pc') (g : Go p e below P (T.setTop (mkF m pc' L st))) : Go p e below P (T.setTop (mkF m pc L (.int x :: st))) := Go.via (fun _ k => XS.ifYes X.here hx rfl rfl hd rfl hc ho hp k) g
theorem s_ifN (X : Stand p l e R s m args below meth c T locs cells slots) (hx : p.tables.exec = Jvm.exec) {cd : ClassFile.Cond} {o : Int} {x : Int32} (hd : decode c.code pc = .ok (.ifCond cd o, 3)) (hc : ifCond.holds cd x = false) (pc' : Nat) (hp : pc + 3 = pc') (g : Go p e below P (T.setTop (mkF m pc' L (st)))) : Go p e below P (T.setTop (mkF m pc L (.int x :: st))) := by
  subst hp; exact Go.via (fun _ k => XS.ifNo X.here hx rfl hd rfl hc k) g
theorem s_icmpY (X : Stand p l e R s m args below meth c T locs cells slots) (hx : p.tables.exec = Jvm.exec) {cd : ClassFile.Cond} {o : Int} {x y : Int32} (hd : decode c.code pc = .ok (.if_icmp cd o, 3)) (hc : if_icmp.holds cd x y = true) (pc' : Nat) (ho : 0 ≤ (pc : Int) + o) (hp : ((pc : Int) + o).toNat = pc') (g : Go p e below P (T.setTop (mkF m pc' L st))) : Go p e below P (T.setTop (mkF m pc L (.int y :: .int x :: st))) := Go.via (fun _ k => XS.icmpYes X.here hx rfl rfl hd rfl hc ho hp k) g
theorem s_icmpN (X : Stand p l e R s m args below meth c T locs cells slots) (hx : p.tables.exec = Jvm.exec) {cd : ClassFile.Cond} {o : Int} {x y : Int32} (hd : decode c.code pc = .ok (.if_icmp cd o, 3)) (hc : if_icmp.holds cd x y = false) (pc' : Nat) (hp : pc + 3 = pc') (g : Go p e below P (T.setTop (mkF m pc' L (st)))) : Go p e below P (T.setTop (mkF m pc L (.int y :: .int x :: st))) := by
  subst hp; exact Go.via (fun _ k => XS.icmpNo X.here hx rfl hd rfl hc k) g
theorem s_acmpY (X : Stand p l e R s m args below meth c T locs cells slots) (hx : p.tables.exec = Jvm.exec) {cd : ClassFile.ACond} {o : Int} {x y : Value} (hd : decode c.code pc = .ok (.if_acmp cd o, 3)) (h1 : x.isRef = true) (h2 : y.isRef = true) (hc : XT.acmp cd x y = true) (pc' : Nat) (ho : 0 ≤ (pc : Int) + o) (hp : ((pc : Int) + o).toNat = pc') (g : Go p e below P (T.setTop (mkF m pc' L st))) : Go p e below P (T.setTop (mkF m pc L (y :: x :: st))) := Go.via (fun _ k => XT.acmpYes X.here hx rfl rfl hd rfl h1 h2 hc ho hp k) g
theorem s_acmpN (X : Stand p l e R s m args below meth c T locs cells slots) (hx : p.tables.exec = Jvm.exec) {cd : ClassFile.ACond} {o : Int} {x y : Value} (hd : decode c.code pc = .ok (.if_acmp cd o, 3)) (h1 : x.isRef = true) (h2 : y.isRef = true) (hc : XT.acmp cd x y = false) (pc' : Nat) (hp : pc + 3 = pc') (g : Go p e below P (T.setTop (mkF m pc' L (st)))) : Go p e below P (T.setTop (mkF m pc L (y :: x :: st))) := by
  subst hp; exact Go.via (fun _ k => XT.acmpNo X.here hx rfl hd rfl h1 h2 hc k) g
theorem s_ifnullN (X : Stand p l e R s m args below meth c T locs cells slots) (hx : p.tables.exec = Jvm.exec) {o : Int} {b : Addr} (hd : decode c.code pc = .ok (.ifnull o, 3))  (pc' : Nat) (hp : pc + 3 = pc') (g : Go p e below P (T.setTop (mkF m pc' L (st)))) : Go p e below P (T.setTop (mkF m pc L (.ref b :: st))) := by
  subst hp; exact Go.via (fun _ k => XS.ifnullNo X.here hx rfl hd rfl k) g
theorem s_ifnullY (X : Stand p l e R s m args below meth c T locs cells slots) (hx : p.tables.exec = Jvm.exec) {o : Int} (hd : decode c.code pc = .ok (.ifnull o, 3)) (pc' : Nat) (ho : 0 ≤ (pc : Int) + o) (hp : ((pc : Int) + o).toNat = pc') (g : Go p e below P (T.setTop (mkF m pc' L st))) : Go p e below P (T.setTop (mkF m pc L (.null :: st))) := Go.via (fun _ k => XS.ifnullYes X.here hx rfl rfl hd rfl ho hp k) g
theorem s_ifnonnullN (X : Stand p l e R s m args below meth c T locs cells slots) (hx : p.tables.exec = Jvm.exec) {o : Int} (hd : decode c.code pc = .ok (.ifnonnull o, 3))  (pc' : Nat) (hp : pc + 3 = pc') (g : Go p e below P (T.setTop (mkF m pc' L (st)))) : Go p e below P (T.setTop (mkF m pc L (.null :: st))) := by
  subst hp; exact Go.via (fun _ k => XT.ifnonnullNo X.here hx rfl hd rfl k) g
theorem s_ifnonnullY (X : Stand p l e R s m args below meth c T locs cells slots) (hx : p.tables.exec = Jvm.exec) {o : Int} {b : Addr} (hd : decode c.code pc = .ok (.ifnonnull o, 3)) (pc' : Nat) (ho : 0 ≤ (pc : Int) + o) (hp : ((pc : Int) + o).toNat = pc') (g : Go p e below P (T.setTop (mkF m pc' L st))) : Go p e below P (T.setTop (mkF m pc L (.ref b :: st))) := Go.via (fun _ k => XT.ifnonnullYes X.here hx rfl rfl hd rfl ho hp k) g
section Cmp
variable {r : Option Ordering} {o : CmpOp}
theorem dd_ne_t (h : r ≠ some .eq) : ifCond.holds .ne (cmpValue r o) = true := by rcases r with _ | (_ | _ | _) <;> cases o <;> first | rfl | exact absurd rfl h
theorem dd_ne_f (h : r = some .eq) : ifCond.holds .ne (cmpValue r o) = false := by subst h; cases o <;> rfl
theorem dd_eq_t (h : r = some .eq) : ifCond.holds .eq (cmpValue r o) = true := by subst h; cases o <;> rfl
theorem dd_eq_f (h : r ≠ some .eq) : ifCond.holds .eq (cmpValue r o) = false := by rcases r with _ | (_ | _ | _) <;> cases o <;> first | rfl | exact absurd rfl h
theorem dd_ge_t (h : r ≠ some .lt) : ifCond.holds .ge (cmpValue r .g) = true := by rcases r with _ | (_ | _ | _) <;> first | rfl | exact absurd rfl h
theorem dd_ge_f (h : r = some .lt) : ifCond.holds .ge (cmpValue r .g) = false := by subst h; rfl
theorem dd_le_t (h : r ≠ some .gt) : ifCond.holds .le (cmpValue r .l) = true := by rcases r with _ | (_ | _ | _) <;> first | rfl | exact absurd rfl h
theorem dd_le_f (h : r = some .gt) : ifCond.holds .le (cmpValue r .l) = false := by subst h; rfl
theorem dd_gt_f (h : r = some .lt ∨ r = some .eq) : ifCond.holds .gt (cmpValue r .g) = false := by rcases h with h | h <;> (subst h; rfl)
theorem dd_lt_f (h : r = some .gt ∨ r = some .eq) : ifCond.holds .lt (cmpValue r .l) = false := by rcases h with h | h <;> (subst h; rfl)
theorem dd_lt_t (h : r = some .lt) : ifCond.holds .lt (cmpValue r o) = true := by subst h; cases o <;> rfl
end Cmp
end Steps1
/-! ## arrays, by the list of what they hold -/
section Arrays
variable {p : Program} {l : Launch} {e : Env} {R : Room} {s : State} {m : MethodId} {args : Array Value} {below : List Frame} {meth : Method} {c : Code} {T : State} {locs : List Loc} {cells slots : Nat} {P : Outcome → State → Prop} {pc : Nat} {L : Array Slot} {st : List Value} {Z : State} {h h' : Heap} {a b : Addr} {a0 : Array Value} {k : ClassId} {ty : FieldType} {vs : List Value} {v : Value} {sl : Nat} {ws : List Addr}
/-- at a lies an array of components ty, of the class numbered k, that holds vs -/
def AR (Z : State) (h : Heap) (a : Addr) (k : ClassId) (ty : FieldType) (vs : List Value) : Prop := ∃ c : Cell, Arr Z h a c ty ∧ c.cls = k ∧ c.slots = vs.toArray
theorem AR.lt (F : AR Z h a k ty vs) : a < h.size := by obtain ⟨c, A, -⟩ := F; exact A.lt
theorem AR.ext (F : AR Z h a k ty vs) (E : Ext h h') : AR Z h' a k ty vs := by obtain ⟨c, A, r⟩ := F; exact ⟨c, A.ext E, r⟩
theorem AR.other (F : AR Z h b k ty vs) (W : Wr h h' a sl v) (q : b ≠ a) : AR Z h' b k ty vs := by obtain ⟨c, A, r⟩ := F; exact ⟨c, A.other W q, r⟩
theorem AR.keep (F : AR Z h a k ty vs) (K : Keep h h' ws) (q : a ∉ ws) : AR Z h' a k ty vs := by obtain ⟨c, A, r⟩ := F; exact ⟨c, ⟨K.2.1 a c A.1 q, A.2⟩, r⟩
theorem AR.same (F : AR Z h a k ty vs) (W : Wr h h' a sl v) : AR Z h' a k ty (vs.set sl v) := by
  obtain ⟨c, A, r1, r2⟩ := F
  exact ⟨c.setSlot sl v, A.same W, r1, by simp [Cell.setSlot, r2]⟩
theorem ar_len {c : Cell} (r : c.slots = vs.toArray) : c.slots.size = vs.length := by rw [r]; simp
theorem ar_in {c : Cell} (r : c.slots = vs.toArray) {j : Int32} {i : Nat} (hj : ¬ j < 0 ∧ j.toNatClampNeg = i) (hv : vs[i]? = some v) : ¬ (j < 0 ∨ c.slots.size ≤ j.toNatClampNeg) ∧ c.slots[j.toNatClampNeg]? = some v := by
  obtain ⟨h1, rfl⟩ := hj
  have h2 : j.toNatClampNeg < vs.length := (List.getElem?_eq_some_iff.mp hv).1
  refine ⟨?_, by rw [r]; simpa using hv⟩
  rintro (q | q)
  · exact h1 q
  · rw [ar_len r] at q; omega
theorem s_len (X : Stand p l e R s m args below meth c T locs cells slots) (hx : p.tables.exec = Jvm.exec) (hZ : Z.Warmed39 s.vm) (eT : T.heap = h) (F : AR Z h a k ty vs) (hd : decode c.code pc = .ok (.arraylength, 1)) (n : Int32) (hn : vs.length.toInt32 = n) (pc' : Nat) (hp : pc + 1 = pc') (g : Go p e below P (T.setTop (mkF m pc' L (.int n :: st)))) : Go p e below P (T.setTop (mkF m pc L (.ref a :: st))) := by
  obtain ⟨cl, A, r1, r2⟩ := F
  subst hp hn
  rw [← ar_len r2] at g
  exact Go.via (fun _ k => X.arraylength hx (by rw [eT]; exact A.1) (State.isArrayOf_alike hZ.alike A.2.1) (g := mkF m pc L (.ref a :: st)) rfl rfl hd _ k) g
theorem s_iaload (X : Stand p l e R s m args below meth c T locs cells slots) (hx : p.tables.exec = Jvm.exec) (hZ : Z.Warmed39 s.vm) (eT : T.heap = h) (F : AR Z h a k .int vs) (hd : decode c.code pc = .ok (.iaload, 1)) {j : Int32} (i : Nat) (hj : ¬ j < 0 ∧ j.toNatClampNeg = i) (v : Value) (hv : vs[i]? = some v) (pc' : Nat) (hp : pc + 1 = pc') (g : Go p e below P (T.setTop (mkF m pc' L (v :: st)))) : Go p e below P (T.setTop (mkF m pc L (.int j :: .ref a :: st))) := by
  obtain ⟨cl, A, r1, r2⟩ := F
  obtain ⟨q1, q2⟩ := ar_in r2 hj hv
  subst hp
  exact Go.via (fun _ k => X.iaload hx (by rw [eT]; exact A.1) (State.isArrayOf_alike hZ.alike A.2.1) A.2.2 q1 q2 (g := mkF m pc L (.int j :: .ref a :: st)) rfl rfl hd _ k) g
theorem s_laload (X : Stand p l e R s m args below meth c T locs cells slots) (hx : p.tables.exec = Jvm.exec) (hZ : Z.Warmed39 s.vm) (eT : T.heap = h) (F : AR Z h a k .long vs) (hd : decode c.code pc = .ok (.laload, 1)) {j : Int32} (i : Nat) (hj : ¬ j < 0 ∧ j.toNatClampNeg = i) (v : Value) (hv : vs[i]? = some v) (pc' : Nat) (hp : pc + 1 = pc') (g : Go p e below P (T.setTop (mkF m pc' L (v :: st)))) : Go p e below P (T.setTop (mkF m pc L (.int j :: .ref a :: st))) := by
  obtain ⟨cl, A, r1, r2⟩ := F
  obtain ⟨q1, q2⟩ := ar_in r2 hj hv
  subst hp
  exact Go.via (fun _ k => X.laload hx (by rw [eT]; exact A.1) (State.isArrayOf_alike hZ.alike A.2.1) A.2.2 q1 q2 (g := mkF m pc L (.int j :: .ref a :: st)) rfl rfl hd _ k) g
theorem s_daload (X : Stand p l e R s m args below meth c T locs cells slots) (hx : p.tables.exec = Jvm.exec) (hZ : Z.Warmed39 s.vm) (eT : T.heap = h) (F : AR Z h a k .double vs) (hd : decode c.code pc = .ok (.daload, 1)) {j : Int32} (i : Nat) (hj : ¬ j < 0 ∧ j.toNatClampNeg = i) (v : Value) (hv : vs[i]? = some v) (pc' : Nat) (hp : pc + 1 = pc') (g : Go p e below P (T.setTop (mkF m pc' L (v :: st)))) : Go p e below P (T.setTop (mkF m pc L (.int j :: .ref a :: st))) := by
  obtain ⟨cl, A, r1, r2⟩ := F
  obtain ⟨q1, q2⟩ := ar_in r2 hj hv
  subst hp
  exact Go.via (fun _ k => X.daload hx (by rw [eT]; exact A.1) (State.isArrayOf_alike hZ.alike A.2.1) A.2.2 q1 q2 (g := mkF m pc L (.int j :: .ref a :: st)) rfl rfl hd _ k) g
theorem s_aaload (X : Stand p l e R s m args below meth c T locs cells slots) (hx : p.tables.exec = Jvm.exec) (hZ : Z.Warmed39 s.vm) (eT : T.heap = h) (F : AR Z h a k ty vs) (ht : ty.isReference = true) (hd : decode c.code pc = .ok (.aaload, 1)) {j : Int32} (i : Nat) (hj : ¬ j < 0 ∧ j.toNatClampNeg = i) (v : Value) (hv : vs[i]? = some v) (pc' : Nat) (hp : pc + 1 = pc') (g : Go p e below P (T.setTop (mkF m pc' L (v :: st)))) : Go p e below P (T.setTop (mkF m pc L (.int j :: .ref a :: st))) := by
  obtain ⟨cl, A, r1, r2⟩ := F
  obtain ⟨q1, q2⟩ := ar_in r2 hj hv
  subst hp
  exact Go.via (fun _ k => X.aaload hx (by rw [eT]; exact A.1) (State.isArrayOf_alike hZ.alike A.2.1) ht A.2.2 q1 q2 (g := mkF m pc L (.int j :: .ref a :: st)) rfl rfl hd _ k) g
theorem s_iastore (X : Stand p l e R s m args below meth c T locs cells slots) (hx : p.tables.exec = Jvm.exec) (hZ : Z.Warmed39 s.vm) (eT : T.heap = h) (F : AR Z h a k .int vs) (hd : decode c.code pc = .ok (.iastore, 1)) (L : Array Slot) (st : List Value) {j : Int32} (i : Nat) (hj : ¬ j < 0 ∧ j.toNatClampNeg = i) (hi : i < vs.length) (x : Int32) (vs' : List Value) (hvs : vs.set i (.int x) = vs') (pc' : Nat) (hp : pc + 1 = pc') :
    ∃ T' h', Stand p l e R s m args below meth c T' (locs ++ [⟨a, i⟩]) cells slots ∧ T'.heap = h' ∧ Wr h h' a i (.int x) ∧ AR Z h' a k .int vs' ∧ ∀ t, Steps p.tables e below (T'.setTop (mkF m pc' L st)) t → Steps p.tables e below (T.setTop (mkF m pc L (.int x :: .int j :: .ref a :: st))) t := by
  obtain ⟨cl, A, r1, r2⟩ := F
  obtain ⟨q1, -⟩ := ar_in r2 hj (List.getElem?_eq_getElem hi)
  obtain ⟨hj1, rfl⟩ := hj
  subst hp hvs
  obtain ⟨T', h', X', e', W, st'⟩ := stI X hx hZ eT A q1 (g := mkF m pc L (.int x :: .int j :: .ref a :: st)) rfl rfl hd
  exact ⟨T', h', X', e', W, AR.same ⟨cl, A, r1, r2⟩ W, st'⟩
theorem s_lastore (X : Stand p l e R s m args below meth c T locs cells slots) (hx : p.tables.exec = Jvm.exec) (hZ : Z.Warmed39 s.vm) (eT : T.heap = h) (F : AR Z h a k .long vs) (hd : decode c.code pc = .ok (.lastore, 1)) (L : Array Slot) (st : List Value) {j : Int32} (i : Nat) (hj : ¬ j < 0 ∧ j.toNatClampNeg = i) (hi : i < vs.length) (x : Int64) (vs' : List Value) (hvs : vs.set i (.long x) = vs') (pc' : Nat) (hp : pc + 1 = pc') :
    ∃ T' h', Stand p l e R s m args below meth c T' (locs ++ [⟨a, i⟩]) cells slots ∧ T'.heap = h' ∧ Wr h h' a i (.long x) ∧ AR Z h' a k .long vs' ∧ ∀ t, Steps p.tables e below (T'.setTop (mkF m pc' L st)) t → Steps p.tables e below (T.setTop (mkF m pc L (.long x :: .int j :: .ref a :: st))) t := by
  obtain ⟨cl, A, r1, r2⟩ := F
  obtain ⟨q1, -⟩ := ar_in r2 hj (List.getElem?_eq_getElem hi)
  obtain ⟨hj1, rfl⟩ := hj
  subst hp hvs
  obtain ⟨T', h', X', e', W, st'⟩ := stJ X hx hZ eT A q1 (g := mkF m pc L (.long x :: .int j :: .ref a :: st)) rfl rfl hd
  exact ⟨T', h', X', e', W, AR.same ⟨cl, A, r1, r2⟩ W, st'⟩
theorem s_dastore (X : Stand p l e R s m args below meth c T locs cells slots) (hx : p.tables.exec = Jvm.exec) (hZ : Z.Warmed39 s.vm) (eT : T.heap = h) (F : AR Z h a k .double vs) (hd : decode c.code pc = .ok (.dastore, 1)) (L : Array Slot) (st : List Value) {j : Int32} (i : Nat) (hj : ¬ j < 0 ∧ j.toNatClampNeg = i) (hi : i < vs.length) (x : UInt64) (vs' : List Value) (hvs : vs.set i (.double x) = vs') (pc' : Nat) (hp : pc + 1 = pc') :
    ∃ T' h', Stand p l e R s m args below meth c T' (locs ++ [⟨a, i⟩]) cells slots ∧ T'.heap = h' ∧ Wr h h' a i (.double x) ∧ AR Z h' a k .double vs' ∧ ∀ t, Steps p.tables e below (T'.setTop (mkF m pc' L st)) t → Steps p.tables e below (T.setTop (mkF m pc L (.double x :: .int j :: .ref a :: st))) t := by
  obtain ⟨cl, A, r1, r2⟩ := F
  obtain ⟨q1, -⟩ := ar_in r2 hj (List.getElem?_eq_getElem hi)
  obtain ⟨hj1, rfl⟩ := hj
  subst hp hvs
  obtain ⟨T', h', X', e', W, st'⟩ := stD X hx hZ eT A q1 (g := mkF m pc L (.double x :: .int j :: .ref a :: st)) rfl rfl hd
  exact ⟨T', h', X', e', W, AR.same ⟨cl, A, r1, r2⟩ W, st'⟩
theorem s_aastore (X : Stand p l e R s m args below meth c T locs cells slots) (hx : p.tables.exec = Jvm.exec) (hZ : Z.Warmed39 s.vm) (eT : T.heap = h) (F : AR Z h a k ty vs) (ht : ty.isReference = true) (hd : decode c.code pc = .ok (.aastore, 1)) (L : Array Slot) (st : List Value) {j : Int32} (i : Nat) (hj : ¬ j < 0 ∧ j.toNatClampNeg = i) (hi : i < vs.length) (x : Value) (S : Sto Z h a x) (vs' : List Value) (hvs : vs.set i x = vs') (pc' : Nat) (hp : pc + 1 = pc') :
    ∃ T' h', Stand p l e R s m args below meth c T' (locs ++ [⟨a, i⟩]) cells slots ∧ T'.heap = h' ∧ Wr h h' a i x ∧ AR Z h' a k ty vs' ∧ ∀ t, Steps p.tables e below (T'.setTop (mkF m pc' L st)) t → Steps p.tables e below (T.setTop (mkF m pc L (x :: .int j :: .ref a :: st))) t := by
  obtain ⟨cl, A, r1, r2⟩ := F
  obtain ⟨q1, -⟩ := ar_in r2 hj (List.getElem?_eq_getElem hi)
  obtain ⟨hj1, rfl⟩ := hj
  subst hp hvs
  obtain ⟨T', h', X', e', W, st'⟩ := stR X hx hZ eT A q1 ht S (g := mkF m pc L (x :: .int j :: .ref a :: st)) rfl rfl hd
  exact ⟨T', h', X', e', W, AR.same ⟨cl, A, r1, r2⟩ W, st'⟩
theorem s_newarray (X : Stand p l e R s m args below meth c T locs cells slots) (hx : p.tables.exec = Jvm.exec) (hZ : Z.Warmed39 s.vm) {aty : ArrayType} (w : (Cond.arrayClass (newarray.typeOf aty)).before a0 Z = true) (eT : T.heap = h) (hd : decode c.code pc = .ok (.newarray aty, 2)) (L : Array Slot) (st : List Value) {n : Int32} (cap : Nat) (hn : ¬ n < 0 ∧ n.toNatClampNeg = cap) (vs : List Value) (hvs : List.replicate cap (defaultValue (newarray.typeOf aty)) = vs) (hb : cap * 8 ≤ 536870912) (hc : cells + 1 ≤ R.cells) (hl : slots + cap ≤ R.slots) (pc' : Nat) (hp : pc + 2 = pc') :
    ∃ T' h' cA, Stand p l e R s m args below meth c T' locs (cells + 1) (slots + cap) ∧ T'.heap = h' ∧ Ext h h' ∧ AR Z h' h.size cA (newarray.typeOf aty) vs ∧ ∀ t, Steps p.tables e below (T'.setTop (mkF m pc' L (.ref h.size :: st))) t → Steps p.tables e below (T.setTop (mkF m pc L (.int n :: st))) t := by
  obtain ⟨n1, n2⟩ := hn
  obtain ⟨T', h', cA, X', e', E, A, st'⟩ := newP X hx hZ w eT (g := mkF m pc L (.int n :: st)) rfl hd rfl n1 (cap := cap) (Nat.le_of_eq n2) hb hc hl
  subst hp hvs
  exact ⟨T', h', cA, X', e', E, ⟨_, A, rfl, by simp [newA, n2]⟩, st'⟩
end Arrays
/-! ## calls by contract -/
section Calls
variable {p : Program} {l : Launch} {e : Env} {R : Room} {s : State} {m : MethodId} {args : Array Value} {below : List Frame} {meth : Method} {c : Code} {T : State} {locs : List Loc} {cells slots : Nat} {P : Outcome → State → Prop} {pc : Nat} {L : Array Slot} {st : List Value} {Z : State} {h h' : Heap} {a0 : Array Value} {own : String} {index : Nat} {y : MethodName} {bytes : ByteArray} {ml : Nat} {rm : Room} {as : Array Value} {Q : Option Value → Heap → List Loc → Prop}
theorem ct_back {ret : Option FieldType} {len W : Nat} (C : Ct l Z y bytes ml ret [] rm as h Q) (hZ : Z.Warmed39 s.vm) (wc : (Cond.code y bytes ml ret).before a0 Z = true) (wz : (Cond.initialized y.cls).before a0 Z = true) (hf : rm.frames + 1 ≤ R.frames) (hl : W + (ml + 11) + rm.locals ≤ R.locals) :
    Back l R p e below s args y len W (fun A a => a = as ∧ A.U.heap = h ∧ A.cells + rm.cells ≤ R.cells ∧ A.slots + rm.slots ≤ R.slots)
      (fun A _ v B => ∃ L, Q v B.U.heap L ∧ B.locs = A.locs ++ L ∧ B.cells = A.cells + rm.cells ∧ B.slots = A.slots + rm.slots) := backOf C hZ wc wz hf hl
theorem callStat {ret : Option FieldType} (X : Stand p l e R s m args below meth c T locs cells slots) (hx : p.tables.exec = Jvm.exec) (hZ : Z.Warmed39 s.vm) (hown : s.vm.findClass own = some m.cls) (w1 : (Cond.methodLink own index y).before a0 Z = true) (w2 : (Cond.static y).before a0 Z = true) (w3 : (Cond.initialized y.cls).before a0 Z = true) (w4 : (Cond.code y bytes ml ret).before a0 Z = true) (hy : y.cls ≠ "java/lang/invoke/MethodHandle" ∧ y.cls ≠ "java/lang/invoke/VarHandle") (C : Ct l Z y bytes ml ret [] rm as h Q) (eT : T.heap = h) (hd : decode c.code pc = .ok (.invokestatic index, 3)) (hml : L.size = c.maxLocals) (argsL rest : List Value) (hst : st = argsL.reverse ++ rest) (has : argsL.toArray = as) {ps : List FieldType} {r : Option FieldType} (hpd : parseMethodDescriptor y.desc = some ⟨ps, r⟩) (hln : argsL.length = ps.length) (W : Nat) (hW : 2 * 0 + (rest.map fun v => v.category).sum ≤ W) (hfr : rm.frames + 1 ≤ R.frames) (hlo : W + (ml + 11) + rm.locals ≤ R.locals) (hc : cells + rm.cells ≤ R.cells) (hs : slots + rm.slots ≤ R.slots) :
    ∃ v T' L', Stand p l e R s m args below meth c T' (locs ++ L') (cells + rm.cells) (slots + rm.slots) ∧ Q v T'.heap L' ∧ ∀ t, Steps p.tables e below (T'.setTop (mkF m (pc + 3) L (v.toList ++ rest))) t → Steps p.tables e below (T.setTop (mkF m pc L st)) t := by
  obtain ⟨v, _, ⟨T', L1, k1, n1⟩, -, X', ⟨L', hQ, l1, y1, z1⟩, st'⟩ := Jvm.LawKit.callS X hx (y := y) hown (mvT hZ w1) (mvT hZ w2) (mvT hZ w3) (mvT hZ w4) hy (ct_back (W := W) C hZ w4 w3 hfr hlo) (g := mkF m pc L st) rfl hml (argsL := argsL) (rest := rest) (lenOf hpd hln) hst hW hd (fun _ _ => ⟨has, eT, hc, hs⟩)
  dsimp only [Pt.U, Pt.locs, Pt.cells, Pt.slots] at X' l1 y1 z1 st' hQ
  subst l1 y1 z1
  exact ⟨v, T', L', X', hQ, st'⟩
theorem callInit (X : Stand p l e R s m args below meth c T locs cells slots) (hx : p.tables.exec = Jvm.exec) (hZ : Z.Warmed39 s.vm) (hown : s.vm.findClass own = some m.cls) (hin : y.name = "<init>") (w1 : (Cond.methodLink own index y).before a0 Z = true) (w2 : (Cond.instanceMethod y).before a0 Z = true) (w3 : (Cond.initialized y.cls).before a0 Z = true) (w4 : (Cond.code y bytes ml none).before a0 Z = true) (hy : y.cls ≠ "java/lang/invoke/MethodHandle" ∧ y.cls ≠ "java/lang/invoke/VarHandle") (C : Ct l Z y bytes ml none [] rm as h Q) (eT : T.heap = h) (hd : decode c.code pc = .ok (.invokespecial index, 3)) (hml : L.size = c.maxLocals) (a : Addr) (argsL rest : List Value) (hst : st = argsL.reverse ++ .ref a :: rest) (has : (.ref a :: argsL).toArray = as) {ps : List FieldType} {r : Option FieldType} (hpd : parseMethodDescriptor y.desc = some ⟨ps, r⟩) (hln : argsL.length = ps.length) (W : Nat) (hW : 2 * 0 + (rest.map fun v => v.category).sum ≤ W) (hfr : rm.frames + 1 ≤ R.frames) (hlo : W + (ml + 11) + rm.locals ≤ R.locals) (hc : cells + rm.cells ≤ R.cells) (hs : slots + rm.slots ≤ R.slots) :
    ∃ v T' L', Stand p l e R s m args below meth c T' (locs ++ L') (cells + rm.cells) (slots + rm.slots) ∧ Q v T'.heap L' ∧ ∀ t, Steps p.tables e below (T'.setTop (mkF m (pc + 3) L (v.toList ++ rest))) t → Steps p.tables e below (T.setTop (mkF m pc L st)) t := by
  obtain ⟨v, _, ⟨T', L1, k1, n1⟩, -, X', ⟨L', hQ, l1, y1, z1⟩, st'⟩ := X.specialBack hx (y := y) hin hown (mvT hZ w1) (mvT hZ w2) (mvT hZ w4) hy (ct_back (W := W) C hZ w4 w3 hfr hlo) (g := mkF m pc L st) rfl hml (Steps.refl _) (a := a) (argsL := argsL) (rest := rest) (lenOf hpd hln) hst hW hd (fun _ _ => ⟨has, eT, hc, hs⟩)
  dsimp only [Pt.U, Pt.locs, Pt.cells, Pt.slots] at X' l1 y1 z1 st' hQ
  subst l1 y1 z1
  exact ⟨v, T', L', X', hQ, fun t k => st'.trans k⟩
theorem callVirt {ret : Option FieldType} {C0 : String} (X : Stand p l e R s m args below meth c T locs cells slots) (hx : p.tables.exec = Jvm.exec) (hZ : Z.Warmed39 s.vm) (hown : s.vm.findClass own = some m.cls) (w1 : (Cond.methodLink own index y).before a0 Z = true) (w2 : (Cond.declares y).before a0 Z = true) (w3 : (Cond.selects C0 y y).before a0 Z = true) (w4 : (Cond.instanceMethod y).before a0 Z = true) (w5 : (Cond.initialized y.cls).before a0 Z = true) (w6 : (Cond.code y bytes ml ret).before a0 Z = true) (hy : y.cls ≠ "java/lang/invoke/MethodHandle" ∧ y.cls ≠ "java/lang/invoke/VarHandle") (C : Ct l Z y bytes ml ret [] rm as h Q) (eT : T.heap = h) (a : Addr) (E : Exa Z h a C0) (hd : decode c.code pc = .ok (.invokevirtual index, 3)) (hml : L.size = c.maxLocals) (argsL rest : List Value) (hst : st = argsL.reverse ++ .ref a :: rest) (has : (.ref a :: argsL).toArray = as) {ps : List FieldType} {r : Option FieldType} (hpd : parseMethodDescriptor y.desc = some ⟨ps, r⟩) (hln : argsL.length = ps.length) (W : Nat) (hW : 2 * 0 + (rest.map fun v => v.category).sum ≤ W) (hfr : rm.frames + 1 ≤ R.frames) (hlo : W + (ml + 11) + rm.locals ≤ R.locals) (hc : cells + rm.cells ≤ R.cells) (hs : slots + rm.slots ≤ R.slots) :
    ∃ v T' L', Stand p l e R s m args below meth c T' (locs ++ L') (cells + rm.cells) (slots + rm.slots) ∧ Q v T'.heap L' ∧ ∀ t, Steps p.tables e below (T'.setTop (mkF m (pc + 3) L (v.toList ++ rest))) t → Steps p.tables e below (T.setTop (mkF m pc L st)) t := by
  obtain ⟨cq, kq, qa, qb, qc⟩ := isOf hZ eT E
  obtain ⟨v, _, ⟨T', L1, k1, n1⟩, -, X', ⟨L', hQ, l1, y1, z1⟩, st'⟩ := X.virtualBack hx (y := y) (z := y) hown (mvT hZ w1) (mvT hZ w2) (notFace_of_selects (args := #[]) (mvT hZ w3)) (mvT hZ w3) (mvT hZ w4) hy (ct_back (W := W) C hZ w6 w5 hfr hlo) qa qc (g := mkF m pc L st) rfl hml (Steps.refl _) (argsL := argsL) (rest := rest) (lenOf hpd hln) hst hW hd (fun _ _ => ⟨has, eT, hc, hs⟩)
  dsimp only [Pt.U, Pt.locs, Pt.cells, Pt.slots] at X' l1 y1 z1 st' hQ
  subst l1 y1 z1
  exact ⟨v, T', L', X', hQ, fun t k => st'.trans k⟩
theorem callPriv {ret : Option FieldType} {C0 : String} {nI : Nat} (X : Stand p l e R s m args below meth c T locs cells slots) (hx : p.tables.exec = Jvm.exec) (hZ : Z.Warmed39 s.vm) (hown : s.vm.findClass own = some m.cls) (w1 : (Cond.methodLink own index y).before a0 Z = true) (w2 : (Cond.privateMethod y).before a0 Z = true) (w3 : (Cond.instantiable y.cls nI).before a0 Z = true) (w4 : (Cond.instanceMethod y).before a0 Z = true) (w5 : (Cond.initialized y.cls).before a0 Z = true) (w6 : (Cond.code y bytes ml ret).before a0 Z = true) (hy : y.cls ≠ "java/lang/invoke/MethodHandle" ∧ y.cls ≠ "java/lang/invoke/VarHandle") (C : Ct l Z y bytes ml ret [] rm as h Q) (eT : T.heap = h) (a : Addr) (E : Exa Z h a C0) (hd : decode c.code pc = .ok (.invokevirtual index, 3)) (hml : L.size = c.maxLocals) (argsL rest : List Value) (hst : st = argsL.reverse ++ .ref a :: rest) (has : (.ref a :: argsL).toArray = as) {ps : List FieldType} {r : Option FieldType} (hpd : parseMethodDescriptor y.desc = some ⟨ps, r⟩) (hln : argsL.length = ps.length) (W : Nat) (hW : 2 * 0 + (rest.map fun v => v.category).sum ≤ W) (hfr : rm.frames + 1 ≤ R.frames) (hlo : W + (ml + 11) + rm.locals ≤ R.locals) (hc : cells + rm.cells ≤ R.cells) (hs : slots + rm.slots ≤ R.slots) :
    ∃ v T' L', Stand p l e R s m args below meth c T' (locs ++ L') (cells + rm.cells) (slots + rm.slots) ∧ Q v T'.heap L' ∧ ∀ t, Steps p.tables e below (T'.setTop (mkF m (pc + 3) L (v.toList ++ rest))) t → Steps p.tables e below (T.setTop (mkF m pc L st)) t := by
  obtain ⟨cell, qa, qc⟩ := E.cell
  rw [← eT] at qa
  have hpr : s.PrivateAt y := Cond.privateMethod_at (mvT (args := #[]) hZ w2)
  obtain ⟨ci, ki, i1, i2, -, i4, -⟩ := Cond.instantiable_spec (mvT (args := args) hZ w3)
  have hsel := selects_self_of_private (args := args) i1 i2 (by simp at i4; exact i4.1) hpr (mvT hZ w4) hy
  obtain ⟨v, _, ⟨T', L1, k1, n1⟩, -, X', ⟨L', hQ, l1, y1, z1⟩, st'⟩ := X.privateBack hx (y := y) hown (mvT hZ w1) (mvT hZ w4) hsel hpr (mvT hZ w6) hy (ct_back (W := W) C hZ w6 w5 hfr hlo) (g := mkF m pc L st) rfl hml (Steps.refl _) qa qc (argsL := argsL) (rest := rest) (lenOf hpd hln) hst hW hd (fun _ _ => ⟨has, eT, hc, hs⟩)
  dsimp only [Pt.U, Pt.locs, Pt.cells, Pt.slots] at X' l1 y1 z1 st' hQ
  subst l1 y1 z1
  exact ⟨v, T', L', X', hQ, fun t k => st'.trans k⟩
end Calls
end Jvm.OwnGo
namespace Jvm.OwnFP
open Jvm.FP Jvm.FP.Core Jvm.Free.Fl
/-- a * 2^x = b -/
def PE (a b : Nat) (x : Int) : Prop := a * 2 ^ x.toNat = b * 2 ^ (-x).toNat
theorem pe_iff {a b : Nat} {x : Int} (y z : Nat) (h : x = (y : Int) - z) : PE a b x ↔ a * 2 ^ y = b * 2 ^ z := by
  unfold PE
  obtain ⟨d, rfl, rfl⟩ : ∃ d, y = x.toNat + d ∧ z = (-x).toNat + d := ⟨min y z, by omega, by omega⟩
  have p1 : 0 < 2 ^ d := Nat.two_pow_pos _
  rw [Nat.pow_add, Nat.pow_add, ← Nat.mul_assoc, ← Nat.mul_assoc]
  exact ⟨fun q => by rw [q], fun q => Nat.eq_of_mul_eq_mul_right p1 q⟩
theorem PE.symm {a b : Nat} {x : Int} (h : PE a b x) : PE b a (-x) := by
  unfold PE at h ⊢; rw [Int.neg_neg]; exact h.symm
theorem PE.trans {a b c : Nat} {x y : Int} (h : PE a b x) (g : PE b c y) : PE a c (x + y) := by
  rw [pe_iff (x.toNat + y.toNat) ((-x).toNat + (-y).toNat) (by omega)]
  unfold PE at h g
  rw [Nat.pow_add, Nat.pow_add, ← Nat.mul_assoc, h, Nat.mul_right_comm, g, Nat.mul_assoc, Nat.mul_comm (2 ^ (-y).toNat)]
theorem PE.mul {a b : Nat} {x : Int} (h : PE a b x) (c : Nat) : PE (c * a) (c * b) x := by
  unfold PE at h ⊢; rw [Nat.mul_assoc, Nat.mul_assoc, h]
theorem PE.of {a b : Nat} {y z : Nat} (h : a * 2 ^ y = b * 2 ^ z) : PE a b ((y : Int) - z) := (pe_iff y z rfl).mpr h
theorem PE.cast {a b : Nat} {x y : Int} (h : PE a b x) (e : x = y) : PE a b y := e ▸ h
/-- the datum times 2^k -/
def sh (k : Int) : Datum → Datum
  | .fin s c q => .fin s c (q + k)
  | d => d
/-- the double a is i / 2^k, just so -/
def Dy (i : Int) (k : Nat) (a : UInt64) : Prop := Whole i (sh k (val64 a))
theorem Dy.fin {i : Int} {k : Nat} {a : UInt64} (h : Dy i k a) : ∃ s c q, val64 a = .fin s c q := by
  unfold Dy at h
  cases hv : val64 a with
  | nan => rw [hv] at h; exact h.elim
  | inf s => rw [hv] at h; exact h.elim
  | fin s c q => exact ⟨s, c, q, rfl⟩
theorem Dy.dfin {i : Int} {k : Nat} {a : UInt64} (h : Dy i k a) : DFin a := h.fin
theorem Dy.fin64 {i : Int} {k : Nat} {a : UInt64} (h : Dy i k a) : Fin64 a := fin64_core.mpr h.fin
theorem Dy.nn {i : Int} {k : Nat} {a : UInt64} (h : Dy i k a) : NoNaN64 a := h.fin64.noNaN
theorem Dy.ne {i : Int} {k : Nat} {a : UInt64} (h : Dy i k a) : val64 a ≠ .nan := h.dfin.ne_nan
theorem dy_int {i : Int} {a : UInt64} (h : DInt i a) : Dy i 0 a := by
  unfold DInt at h; unfold Dy
  cases hv : val64 a with
  | nan => rw [hv] at h; exact h.elim
  | inf s => rw [hv] at h; exact h.elim
  | fin s c q => rw [hv] at h; show Whole i (.fin s c (q + 0)); rw [Int.add_zero]; exact h
theorem Dy.int {i : Int} {a : UInt64} (h : Dy i 0 a) : DInt i a := by
  obtain ⟨s, c, q, hv⟩ := h.fin
  unfold Dy at h; unfold DInt
  rw [hv] at h ⊢
  have h : Whole i (.fin s c (q + 0)) := h
  rw [Int.add_zero] at h; exact h
theorem dy_i2d (x : Int32) : Dy x.toInt 0 (FP.i2d x) := dy_int (i2d_int x)
theorem dy_l2d {x : Int64} (h : x.toInt.natAbs ≤ 2 ^ 53) : Dy x.toInt 0 (FP.l2d x) := dy_int (l2d_int h)
theorem whole_pe {i : Int} {s : Bool} {c : Nat} {q : Int} (h : Whole i (.fin s c q)) : PE c i.natAbs q := whole_natAbs h
/-- what is so small a multiple of a power of two is a double -/
theorem dy_rnd {i : Int} {k : Nat} {s : Bool} {n : Nat} (hn : i.natAbs = n) (hs : i ≠ 0 → s = decide (i < 0)) (hi : n ≤ 2 ^ 53) (hk : k ≤ 1000) : Whole i (sh k (roundRatio b64 s n 1 (-(k : Int)))) := by
  by_cases h0 : n = 0
  · have : i = 0 := by omega
    subst this
    unfold roundRatio
    rw [if_pos h0]
    show signed s (0 * _) = 0 * _
    rw [Nat.zero_mul, Int.zero_mul]; exact signed_zero s
  · obtain ⟨c, q, hfit, hv⟩ := natFit good_b64 wide_b64 s (n := n) hi
    have hq : q = -1074 ∨ b64.tails ≤ c := by have := hfit.2.2.2; rw [qmin_b64] at this; exact this
    have hv' : n * 2 ^ (-q).toNat = c * 2 ^ q.toNat := by
      rw [show (0 - q).toNat = (-q).toNat by omega, show (q - 0).toNat = q.toNat by omega, Nat.mul_one] at hv; exact hv
    have hc : c < 2 ^ 53 := hfit.1
    have hq2 : q ≤ b64.qmax := hfit.2.2.1
    have hq1 : -53 ≤ q := by
      refine Int.le_of_not_gt fun hlt => ?_
      have e1 : q.toNat = 0 := by omega
      rw [e1, Nat.pow_zero, Nat.mul_one] at hv'
      have : 2 ^ 53 ≤ 2 ^ (-q).toNat := Nat.pow_le_pow_right (by decide) (by omega)
      have h2 : 1 * 2 ^ 53 ≤ n * 2 ^ (-q).toNat := Nat.mul_le_mul (by omega) this
      omega
    have hfit2 : Core.fits b64 (.fin s c (q - k)) := by
      refine ⟨hfit.1, ?_, by omega, Or.inr ?_⟩
      · rw [qmin_b64]; omega
      · rcases hq with hq | hq
        · omega
        · exact hq
    rw [roundRatio_exact good_b64 (by decide) hfit2 (by
      rw [show (-(k : Int) - (q - k)).toNat = (-q).toNat by omega, show (q - (k : Int) - -(k : Int)).toNat = q.toNat by omega, Nat.mul_one]; exact hv')]
    show Whole i (.fin s c (q - k + k))
    rw [show q - (k : Int) + k = q by omega]
    show signed s (c * 2 ^ q.toNat) = i * _
    rw [← hv', signed_mul, hs (by omega)]
    congr 1
    unfold signed
    by_cases h : i < 0 <;> simp [h] <;> omega
theorem dy_round {i : Int} {k : Nat} {s : Bool} {c : Nat} {q : Int} (h : Whole i (.fin s c (q + k))) (hi : i.natAbs ≤ 2 ^ 53) (hk : k ≤ 1000) : Whole i (sh k (round b64 (.fin s c q))) := by
  have e : round b64 (.fin s c q) = roundRatio b64 s i.natAbs 1 (-(k : Int)) := by
    refine roundRatio_congr (by decide) (by decide) ?_
    have := whole_natAbs h
    rw [show (q - -(k : Int)).toNat = (q + k).toNat by omega, show (-(k : Int) - q).toNat = (-(q + k)).toNat by omega]
    simpa using this
  rw [e]
  exact dy_rnd rfl (fun hz => whole_sign h hz) hi hk
theorem sh_sum (k : Int) (s : Bool) (c : Nat) (q : Int) (t : Bool) (d : Nat) (r : Int) : sh k (exactSum (.fin s c q) (.fin t d r)) = exactSum (.fin s c (q + k)) (.fin t d (r + k)) := by
  have e : min (q + k) (r + k) = min q r + k := by omega
  simp only [exactSum, sh, e, sumUnits, inUnits]
  rw [show q + k - (min q r + k) = q - min q r by omega, show r + k - (min q r + k) = r - min q r by omega]
theorem dy_add {i j : Int} {k : Nat} {a b : UInt64} (ha : Dy i k a) (hb : Dy j k b) (h : (i + j).natAbs ≤ 2 ^ 53) (hk : k ≤ 1000) : Dy (i + j) k (FP.dadd a b) := by
  obtain ⟨s, c, q, ea⟩ := ha.fin
  obtain ⟨t, d, r, eb⟩ := hb.fin
  unfold Dy at ha hb ⊢
  rw [ea] at ha; rw [eb] at hb
  have w : Whole (i + j) (sh k (exactSum (.fin s c q) (.fin t d r))) := by rw [sh_sum]; exact whole_sum ha hb
  rw [show FP.dadd a b = Core.dadd a b from rfl, val64_dadd, ea, eb]
  exact dy_round w h hk
theorem dy_neg {i : Int} {k : Nat} {a : UInt64} (ha : Dy i k a) : Dy (-i) k (FP.dneg a) := by
  obtain ⟨s, c, q, ea⟩ := ha.fin
  unfold Dy at ha ⊢
  rw [ea] at ha
  rw [FP.val64_dneg, ea]
  exact whole_negate ha
theorem dy_sub {i j : Int} {k : Nat} {a b : UInt64} (ha : Dy i k a) (hb : Dy j k b) (h : (i - j).natAbs ≤ 2 ^ 53) (hk : k ≤ 1000) : Dy (i - j) k (FP.dsub a b) := by
  obtain ⟨s, c, q, ea⟩ := ha.fin
  obtain ⟨t, d, r, eb⟩ := hb.fin
  unfold Dy at ha hb ⊢
  rw [ea] at ha; rw [eb] at hb
  have hb' : Whole (-j) (.fin (!t) d (r + k)) := whole_negate hb
  have w : Whole (i - j) (sh k (exactSum (.fin s c q) (.fin (!t) d r))) := by rw [sh_sum]; exact whole_sum ha hb'
  rw [show FP.dsub a b = Core.dsub a b from rfl, val64_dsub, ea, eb]
  exact dy_round w h hk
theorem dy_mul {i j : Int} {k n : Nat} {a b : UInt64} (ha : Dy i k a) (hb : Dy j n b) (h : (i * j).natAbs ≤ 2 ^ 53) (hk : k + n ≤ 1000) : Dy (i * j) (k + n) (FP.dmul a b) := by
  obtain ⟨s, c, q, ea⟩ := ha.fin
  obtain ⟨t, d, r, eb⟩ := hb.fin
  unfold Dy at ha hb ⊢
  rw [ea] at ha; rw [eb] at hb
  have w : Whole (i * j) (.fin (s != t) (c * d) (q + r + (k + n : Nat))) := by
    have := whole_product ha hb
    rw [show q + r + ((k + n : Nat) : Int) = q + k + (r + n) by omega]; exact this
  rw [show FP.dmul a b = Core.dmul a b from rfl, val64_dmul, ea, eb]
  exact dy_round w h hk
theorem dy_up {i : Int} {k : Nat} {a : UInt64} (n : Nat) (ha : Dy i k a) : Dy (i * (2 ^ n : Nat)) (k + n) a := by
  obtain ⟨s, c, q, ea⟩ := ha.fin
  unfold Dy at ha ⊢
  rw [ea] at ha ⊢
  have ha : signed s (c * 2 ^ (q + k).toNat) = i * ((2 ^ (-(q + k)).toNat : Nat) : Int) := ha
  show signed s (c * 2 ^ (q + (k + n : Nat)).toNat) = i * (2 ^ n : Nat) * ((2 ^ (-(q + (k + n : Nat))).toNat : Nat) : Int)
  have p2 : ((2 ^ (-(q + (k : Int))).toNat : Nat) : Int) ≠ 0 := by have := Nat.two_pow_pos (-(q + (k : Int))).toNat; omega
  have e1 : (q + ((k + n : Nat) : Int)).toNat + (-(q + (k : Int))).toNat = (q + (k : Int)).toNat + (n + (-(q + ((k + n : Nat) : Int))).toNat) := by omega
  rw [signed_mul] at ha ⊢
  refine Int.eq_of_mul_eq_mul_right p2 ?_
  rw [Int.mul_assoc, ← Int.natCast_mul, ← Nat.pow_add, e1, Nat.pow_add, Int.natCast_mul, ← Int.mul_assoc, ha, Nat.pow_add, Int.natCast_mul]
  ac_rfl
theorem dy_cmp {i j : Int} {k : Nat} {a b : UInt64} (ha : Dy i k a) (hb : Dy j k b) : FP.dcmp a b = some (compare i j) := by
  obtain ⟨s, c, q, ea⟩ := ha.fin
  obtain ⟨t, d, r, eb⟩ := hb.fin
  unfold Dy at ha hb
  rw [ea] at ha; rw [eb] at hb
  have w := order_whole ha hb
  show order (val64 a) (val64 b) = _
  rw [ea, eb, ← w]
  have e : min (q + k) (r + k) = min q r + k := by omega
  simp only [order, sh, e, inUnits]
  rw [show q + k - (min q r + k) = q - min q r by omega, show r + k - (min q r + k) = r - min q r by omega]
theorem dy_div {i j t : Int} {k n r : Nat} {a b : UInt64} (ha : Dy i k a) (hb : Dy j n b) (hj : j ≠ 0) (h : i * (2 ^ (n + r) : Nat) = t * j * (2 ^ k : Nat)) (ht : t.natAbs ≤ 2 ^ 53) (hr : r ≤ 1000) : Dy t r (FP.ddiv a b) := by
  obtain ⟨s, c, q, ea⟩ := ha.fin
  obtain ⟨u, d, z, eb⟩ := hb.fin
  unfold Dy at ha hb ⊢
  rw [ea] at ha; rw [eb] at hb
  have ha : Whole i (.fin s c (q + k)) := ha
  have hb : Whole j (.fin u d (z + n)) := hb
  have hd : d ≠ 0 := fun e => hj ((whole_zero hb).mp e)
  rw [show FP.ddiv a b = Core.ddiv a b from rfl, val64_ddiv, ea, eb]
  show Whole t (sh r (if d = 0 then _ else roundRatio b64 (s != u) c d (q - z)))
  rw [if_neg hd]
  have pn : (0 : Int) < ((2 ^ (n + r) : Nat) : Int) := by have := Nat.two_pow_pos (n + r); omega
  have pk : (0 : Int) < ((2 ^ k : Nat) : Int) := by have := Nat.two_pow_pos k; omega
  have hn : i.natAbs * 2 ^ (n + r) = t.natAbs * j.natAbs * 2 ^ k := by
    have := congrArg Int.natAbs h
    rw [Int.natAbs_mul, Int.natAbs_mul, Int.natAbs_mul, Int.natAbs_natCast, Int.natAbs_natCast] at this
    exact this
  have e : roundRatio b64 (s != u) c d (q - z) = roundRatio b64 (s != u) t.natAbs 1 (-(r : Int)) := by
    refine roundRatio_congr (by omega) (by decide) ?_
    have g := ((whole_pe ha).trans (PE.of hn)).trans ((whole_pe hb).symm.mul t.natAbs)
    have g' : PE c (t.natAbs * d) (q - z + r) := g.cast (by omega)
    unfold PE at g'
    rw [show (q - z - -(r : Int)).toNat = (q - z + r).toNat by omega, show (-(r : Int) - (q - z)).toNat = (-(q - z + r)).toNat by omega, Nat.mul_one]
    exact g'
  rw [e]
  refine dy_rnd rfl (fun hz => ?_) ht hr
  have hi : i ≠ 0 := by
    rintro rfl
    rw [Int.zero_mul] at h
    rcases Int.mul_eq_zero.mp h.symm with q | q
    · rcases Int.mul_eq_zero.mp q with q | q
      · exact hz q
      · exact hj q
    · omega
  rw [whole_sign ha hi, whole_sign hb hj]
  have g1 : i < 0 ↔ t * j < 0 := by
    constructor
    · intro q
      have : t * j * ((2 ^ k : Nat) : Int) < 0 := by rw [← h]; exact Int.mul_neg_of_neg_of_pos q pn
      exact Int.lt_of_not_ge fun q' => by have := Int.mul_nonneg q' (Int.le_of_lt pk); omega
    · intro q
      have : i * ((2 ^ (n + r) : Nat) : Int) < 0 := by rw [h]; exact Int.mul_neg_of_neg_of_pos q pk
      exact Int.lt_of_not_ge fun q' => by have := Int.mul_nonneg q' (Int.le_of_lt pn); omega
  rcases Int.lt_or_lt_of_ne hz with ht0 | ht0 <;> rcases Int.lt_or_lt_of_ne hj with hj0 | hj0
  · have q1 := Int.mul_pos_of_neg_of_neg ht0 hj0
    have q2 : ¬ i < 0 := by rw [g1]; omega
    simp [ht0, hj0, q2]
  · have q1 := Int.mul_neg_of_neg_of_pos ht0 hj0
    have q2 : i < 0 := by rw [g1]; exact q1
    have q3 : ¬ j < 0 := by omega
    simp [ht0, q2, q3]
  · have q1 := Int.mul_neg_of_pos_of_neg ht0 hj0
    have q2 : i < 0 := by rw [g1]; exact q1
    have q3 : ¬ t < 0 := by omega
    simp [hj0, q2, q3]
  · have q1 := Int.mul_pos ht0 hj0
    have q2 : ¬ i < 0 := by rw [g1]; omega
    have q3 : ¬ t < 0 := by omega
    have q4 : ¬ j < 0 := by omega
    simp [q2, q3, q4]
theorem dy_eq {i j : Int} {k : Nat} {a b : UInt64} (ha : Dy i k a) (hb : Dy j k b) (h : i = j) : FP.dcmp a b = some .eq := by
  rw [dy_cmp ha hb, h, compare_self_int]
theorem dy_lt {i j : Int} {k : Nat} {a b : UInt64} (ha : Dy i k a) (hb : Dy j k b) (h : i < j) : FP.dcmp a b = some .lt := by
  rw [dy_cmp ha hb, (compare_lt_iff i j).mpr h]
theorem dy_gt {i j : Int} {k : Nat} {a b : UInt64} (ha : Dy i k a) (hb : Dy j k b) (h : j < i) : FP.dcmp a b = some .gt := by
  rw [dy_cmp ha hb, (compare_gt_iff i j).mpr h]
theorem dy_cast {i j : Int} {k n : Nat} {a : UInt64} (h : Dy i k a) (e : i = j) (e' : k = n) : Dy j n a := by subst e e'; exact h
theorem dy_zero : Dy 0 0 (0 : UInt64) := by
  show Whole 0 (sh 0 (val64 0)); rw [val64_zero]
  show signed false (0 * _) = 0 * _
  rw [Nat.zero_mul, Int.zero_mul]; rfl
end Jvm.OwnFP
namespace Jvm.OwnFP
open Jvm.FP Jvm.FP.Core Jvm.Free.Fl
/-! ## numbers with a bound: an int, a long, a double that is i (over 2^k), i at most N -/
def Ib (N : Nat) (i : Int) (x : Int32) : Prop := x.toInt = i ∧ i.natAbs ≤ N
def Lb (N : Nat) (i : Int) (x : Int64) : Prop := x.toInt = i ∧ i.natAbs ≤ N
def Db (N : Nat) (i : Int) (k : Nat) (a : UInt64) : Prop := Dy i k a ∧ i.natAbs ≤ N
theorem Ib.lit (N : Nat) (i : Int) (x : Int32) (h : x.toInt = i ∧ i.natAbs ≤ N := by decide) : Ib N i x := h
theorem Lb.lit (N : Nat) (i : Int) (x : Int64) (h : x.toInt = i ∧ i.natAbs ≤ N := by decide) : Lb N i x := h
theorem Ib.any (x : Int32) : Ib (2 ^ 31) x.toInt x := ⟨rfl, by have := x.toInt_lt; have := x.le_toInt; omega⟩
theorem Ib.cast {N M : Nat} {i j : Int} {x : Int32} (h : Ib N i x) (e : i = j) (g : j.natAbs ≤ M) : Ib M j x := ⟨h.1.trans e, g⟩
theorem Lb.cast {N M : Nat} {i j : Int} {x : Int64} (h : Lb N i x) (e : i = j) (g : j.natAbs ≤ M) : Lb M j x := ⟨h.1.trans e, g⟩
theorem Db.cast {N M : Nat} {i j : Int} {k : Nat} {a : UInt64} (h : Db N i k a) (e : i = j) (g : j.natAbs ≤ M) : Db M j k a := by subst e; exact ⟨h.1, g⟩
theorem bn_add {a b : Int} {N M : Nat} (h1 : a.natAbs ≤ N) (h2 : b.natAbs ≤ M) : (a + b).natAbs ≤ N + M := by omega
theorem bn_sub {a b : Int} {N M : Nat} (h1 : a.natAbs ≤ N) (h2 : b.natAbs ≤ M) : (a - b).natAbs ≤ N + M := by omega
theorem bn_mul {a b : Int} {N M : Nat} (h1 : a.natAbs ≤ N) (h2 : b.natAbs ≤ M) : (a * b).natAbs ≤ N * M := by rw [Int.natAbs_mul]; exact Nat.mul_le_mul h1 h2
section
variable {N M : Nat} {i j : Int} {k n : Nat}
theorem Ib.add {x y : Int32} (h1 : Ib N i x) (h2 : Ib M j y) (h : N + M < 2147483648) : Ib (N + M) (i + j) (x + y) := by
  obtain ⟨rfl, b1⟩ := h1
  obtain ⟨rfl, b2⟩ := h2
  have b := bn_add b1 b2
  exact ⟨Jvm.Free.XT.add32 ⟨by omega, by omega⟩, b⟩
theorem Ib.sub {x y : Int32} (h1 : Ib N i x) (h2 : Ib M j y) (h : N + M < 2147483648) : Ib (N + M) (i - j) (x - y) := by
  obtain ⟨rfl, b1⟩ := h1
  obtain ⟨rfl, b2⟩ := h2
  have b := bn_sub b1 b2
  exact ⟨Jvm.Free.XT.sub32 ⟨by omega, by omega⟩, b⟩
theorem Ib.mul {x y : Int32} (h1 : Ib N i x) (h2 : Ib M j y) (h : N * M < 2147483648) : Ib (N * M) (i * j) (x * y) := by
  obtain ⟨rfl, b1⟩ := h1
  obtain ⟨rfl, b2⟩ := h2
  have b := bn_mul b1 b2
  exact ⟨Jvm.Free.XT.mul32 ⟨by omega, by omega⟩, b⟩
theorem Lb.add {x y : Int64} (h1 : Lb N i x) (h2 : Lb M j y) (h : N + M < 9223372036854775808) : Lb (N + M) (i + j) (x + y) := by
  obtain ⟨rfl, b1⟩ := h1
  obtain ⟨rfl, b2⟩ := h2
  have b := bn_add b1 b2
  exact ⟨Jvm.Free.XT.add64 ⟨by omega, by omega⟩, b⟩
theorem Lb.sub {x y : Int64} (h1 : Lb N i x) (h2 : Lb M j y) (h : N + M < 9223372036854775808) : Lb (N + M) (i - j) (x - y) := by
  obtain ⟨rfl, b1⟩ := h1
  obtain ⟨rfl, b2⟩ := h2
  have b := bn_sub b1 b2
  exact ⟨Jvm.Free.XT.sub64 ⟨by omega, by omega⟩, b⟩
theorem Lb.mul {x y : Int64} (h1 : Lb N i x) (h2 : Lb M j y) (h : N * M < 9223372036854775808) : Lb (N * M) (i * j) (x * y) := by
  obtain ⟨rfl, b1⟩ := h1
  obtain ⟨rfl, b2⟩ := h2
  have b := bn_mul b1 b2
  exact ⟨Jvm.Free.XT.mul64 ⟨by omega, by omega⟩, b⟩
theorem Lb.neg {x : Int64} (h1 : Lb N i x) (h : N < 9223372036854775808) : Lb N (-i) (-x) := by
  obtain ⟨rfl, h2⟩ := h1
  exact ⟨int64_neg (by omega), by omega⟩
theorem Ib.i2l {x : Int32} (h : Ib N i x) : Lb N i x.toInt64 := ⟨(Int32.toInt_toInt64 x).trans h.1, h.2⟩
theorem Lb.l2i {x : Int64} (h : Lb N i x) (hN : N < 2147483648) : Ib N i x.toInt32 := by
  obtain ⟨rfl, h2⟩ := h
  exact ⟨int64_toInt32 (by omega) (by omega), h2⟩
theorem Ib.i2d {x : Int32} (h : Ib N i x) : Db N i 0 (FP.i2d x) := by obtain ⟨rfl, h2⟩ := h; exact ⟨dy_i2d x, h2⟩
theorem Lb.l2d {x : Int64} (h : Lb N i x) (hN : N ≤ 9007199254740992) : Db N i 0 (FP.l2d x) := by obtain ⟨rfl, h2⟩ := h; exact ⟨dy_l2d (Nat.le_trans h2 hN), h2⟩
theorem Db.nn {a : UInt64} (h : Db N i k a) : NoNaN64 a := h.1.nn
theorem Db.add {a b : UInt64} (h1 : Db N i k a) (h2 : Db M j k b) (h : N + M ≤ 9007199254740992 ∧ k ≤ 1000) : Db (N + M) (i + j) k (FP.dadd a b) :=
  ⟨dy_add h1.1 h2.1 (Nat.le_trans (bn_add h1.2 h2.2) h.1) h.2, bn_add h1.2 h2.2⟩
theorem Db.sub {a b : UInt64} (h1 : Db N i k a) (h2 : Db M j k b) (h : N + M ≤ 9007199254740992 ∧ k ≤ 1000) : Db (N + M) (i - j) k (FP.dsub a b) :=
  ⟨dy_sub h1.1 h2.1 (Nat.le_trans (bn_sub h1.2 h2.2) h.1) h.2, bn_sub h1.2 h2.2⟩
theorem Db.mul {a b : UInt64} (h1 : Db N i k a) (h2 : Db M j n b) (h : N * M ≤ 9007199254740992 ∧ k + n ≤ 1000) : Db (N * M) (i * j) (k + n) (FP.dmul a b) :=
  ⟨dy_mul h1.1 h2.1 (Nat.le_trans (bn_mul h1.2 h2.2) h.1) h.2, bn_mul h1.2 h2.2⟩
theorem Db.neg {a : UInt64} (h1 : Db N i k a) : Db N (-i) k (FP.dneg a) := ⟨dy_neg h1.1, by have := h1.2; omega⟩
theorem Db.eq {a b : UInt64} (h1 : Db N i k a) (h2 : Db M j k b) (e : i = j) : FP.dcmp a b = some .eq := dy_eq h1.1 h2.1 e
theorem Db.up {a : UInt64} (h : Db N i k a) (n : Nat) : Db (N * 2 ^ n) (i * (2 ^ n : Nat)) (k + n) a := ⟨dy_up n h.1, by rw [Int.natAbs_mul, Int.natAbs_natCast]; exact Nat.mul_le_mul_right _ h.2⟩
theorem Db.zero : Db 0 0 0 (0 : UInt64) := ⟨dy_zero, Nat.le_refl _⟩
theorem Db.div2 {a b : UInt64} (e : Nat) (h1 : Db N i k a) (h2 : Db M ((2 ^ e : Nat) : Int) 0 b) (h : N ≤ 9007199254740992 ∧ k + e ≤ 1000) : Db N i (k + e) (FP.ddiv a b) := by
  refine ⟨dy_div h1.1 h2.1 (by have := Nat.two_pow_pos e; omega) ?_ (Nat.le_trans h1.2 h.1) h.2, h1.2⟩
  rw [Nat.zero_add, Nat.pow_add, Int.natCast_mul, Int.mul_assoc, Int.mul_comm ((2 ^ k : Nat) : Int)]
theorem Db.lit {a : UInt64} (s : Bool) (c : Nat) (q : Int) (N : Nat) (i : Int) (k : Nat) (e : val64 a = .fin s c q) (w : signed s (c * 2 ^ (q + k).toNat) = i * ((2 ^ (-(q + (k : Int))).toNat : Nat) : Int) ∧ i.natAbs ≤ N) : Db N i k a := by
  refine ⟨?_, w.2⟩
  unfold Dy; rw [e]; exact w.1
theorem Ib.re {x : Int32} (h : Ib N i x) : Ib N x.toInt x := ⟨rfl, by rw [h.1]; exact h.2⟩
theorem Lb.re {x : Int64} (h : Lb N i x) : Lb N x.toInt x := ⟨rfl, by rw [h.1]; exact h.2⟩
theorem Db.weak {M : Nat} {a : UInt64} (h : Db N i k a) (q : N ≤ M) : Db M i k a := ⟨h.1, Nat.le_trans h.2 q⟩
theorem Lb.weak {M : Nat} {a : Int64} (h : Lb N i a) (q : N ≤ M) : Lb M i a := ⟨h.1, Nat.le_trans h.2 q⟩
theorem Ib.weak {M : Nat} {a : Int32} (h : Ib N i a) (q : N ≤ M) : Ib M i a := ⟨h.1, Nat.le_trans h.2 q⟩
end
end Jvm.OwnFP
namespace Jvm.Pilot.@@N@@
open Jvm Jvm.ClassFile Sem Op Lib Jvm.Free Jvm.Stand Jvm.LawKit Jvm.RoadKit Bundle Jvm.Pilot.@@N@@.Jvm.D Jvm.OwnGo
theorem wd {a0 : Array Value} {Z : State} (hw : ∀ d ∈ tables_1, d.before a0 Z = true) (k : Nat) (d : Jvm.Cond) (hd : tables_1[k]? = some d) : d.before a0 Z = true := hw _ (List.mem_of_getElem? hd)
theorem pn_law : plainFor x = true := plainFor_of_name (by show plainName "com/example/twelvefold/twelvefold/FrameTransformMatrixTimesPinLaw" = true; first | (simp [plainName, overriddenIn]; done) | decide +kernel)
open Jvm.OwnFP
theorem part_lb (x : Int64) (n : Int32) : ∃ z : Int64, (XT.ushrL x n &&& (2097151 : Int64)) - (1048576 : Int64) = z ∧ Lb 3145728 z.toInt z := by
  refine ⟨_, rfl, ?_⟩
  have h : Lb 2097152 (XT.ushrL x n &&& (2097151 : Int64)).toInt (XT.ushrL x n &&& (2097151 : Int64)) := ⟨rfl, by rw [c_maskL _ _ 21 (by decide) (by decide)]; omega⟩
  exact (Lb.sub h (Lb.lit 1048576 1048576 (1048576 : Int64)) (by decide)).re
theorem d1_0 : decode prog_6_method_1_code 0 = .ok (.aload_n 0, 1) := by decide +kernel
theorem d1_1 : decode prog_6_method_1_code 1 = .ok (.invokespecial 1, 3) := by decide +kernel
theorem d1_4 : decode prog_6_method_1_code 4 = .ok (.aload_n 0, 1) := by decide +kernel
theorem d1_5 : decode prog_6_method_1_code 5 = .ok (.aload_n 1, 1) := by decide +kernel
theorem d1_6 : decode prog_6_method_1_code 6 = .ok (.putfield 7, 3) := by decide +kernel
theorem d1_9 : decode prog_6_method_1_code 9 = .ok (.return_, 1) := by decide +kernel
theorem pd_1 : parseMethodDescriptor "([D)V" = some ⟨[.array .double], none⟩ := by decide +kernel
theorem pn_1 : plainFor (⟨"com/example/twelvefold/twelvefold/FrameTransformMatrix", "<init>", "([D)V"⟩ : MethodName) = true := plainFor_of_name (by show plainName "com/example/twelvefold/twelvefold/FrameTransformMatrix" = true; first | (simp [plainName, overriddenIn]; done) | decide +kernel)
set_option maxRecDepth 65536 in
set_option maxHeartbeats 40000000 in
theorem rm_init (l : Launch) (Z : State) (a0 : Array Value) (hw : ∀ d ∈ tables_1, d.before a0 Z = true) (ws : List Jvm.Cond) (a1 : Addr) (x0 : Addr) (h0 : Heap) (n0 : Nat) (Z0 : n0 ≤ h0.size) (E1 : Exa Z h0 a1 "com/example/twelvefold/twelvefold/FrameTransformMatrix") (g1 : n0 ≤ a1) (F_0 : Fld Z h0 a1 "com/example/twelvefold/twelvefold/FrameTransformMatrix" "elements" "[D" (.null))  :
    Ct l Z (⟨"com/example/twelvefold/twelvefold/FrameTransformMatrix", "<init>", "([D)V"⟩ : MethodName) prog_6_method_1_code 2 none ws ({ frames := 1, cells := 0, slots := 0, locals := 12 } : Room) #[.ref a1, .ref x0] h0 (fun w h L => w = none ∧ Fr n0 L ∧ Keep h0 h [a1] ∧ Fld Z h a1 "com/example/twelvefold/twelvefold/FrameTransformMatrix" "elements" "[D" (.ref x0)) := by
  refine Ct.intro pn_1 #[.val (.ref a1), .val (.ref x0)] (fun _ => by first | (simp [entryFrame, mkF, argsToLocals, Value.category, maxLocals]; done) | rfl) ?_
  intro p e s m below meth c T0 X0 hx hZ hby hml hown hnm hret hlk e0
  have N0 := Fr.nil n0
  have K0 := Keep.refl h0 [a1]
  refine s_aloadN X0 hx (hb hby d1_0) rfl rfl 1 rfl ?_
  obtain ⟨T1, X1, e1, st1⟩ := initO X0 hx hZ hown (wd hw 14 _ rfl) (wd hw 15 _ rfl) (wd hw 16 _ rfl) e0 (g := (mkF m 1 #[.val (.ref a1), .val (.ref x0)] [.ref a1])) rfl (by rw [hml]; rfl) rfl (hb hby d1_1) (by decide) (W := 0) (by show 2 * 0 + _ ≤ _; exact Nat.le_of_eq rfl) (by decide)
  refine Go.via st1 ?_
  show Go p e below _ (T1.setTop (mkF m 4 #[.val (.ref a1), .val (.ref x0)] []))
  refine s_aloadN X1 hx (hb hby d1_4) rfl rfl 5 rfl ?_
  refine s_aloadN X1 hx (hb hby d1_5) rfl rfl 6 rfl ?_
  obtain ⟨T2, h2, X2, e2, W2, st2⟩ := putF X1 hx hZ hown (host := "") (Or.inl (wd hw 17 _ rfl)) Via.refl e1 F_0 E1 (Or.inr ⟨(wd hw 18 _ rfl), rfl, hnm⟩) (wd hw 9 _ rfl) (ty := .array .double) (by decide) rfl rfl (g := (mkF m 6 #[.val (.ref a1), .val (.ref x0)] [.ref x0, .ref a1])) rfl rfl (hb hby d1_6)
  have N2 := Fr.snoc X2 N0 g1
  have F3 := F_0.same W2
  have F4 := E1.wr W2
  have Z5 : n0 ≤ h2.size := by rw [W2.size]; exact Z0
  have K6 := K0.wr W2 (Or.inl (by simp))
  refine Go.via st2 ?_
  show Go p e below _ (T2.setTop (mkF m 9 #[.val (.ref a1), .val (.ref x0)] []))
  exact retV X2 hx hlk hret (hb hby d1_9) e2 ⟨rfl, N2, K6, F3⟩ (by decide) (by decide)
theorem d0_0 : decode method_2_code 0 = .ok (.lload_n 0, 1) := by decide +kernel
theorem d0_1 : decode method_2_code 1 = .ok (.bipush 21, 2) := by decide +kernel
theorem d0_3 : decode method_2_code 3 = .ok (.iload_n 2, 1) := by decide +kernel
theorem d0_4 : decode method_2_code 4 = .ok (.imul, 1) := by decide +kernel
theorem d0_5 : decode method_2_code 5 = .ok (.lushr, 1) := by decide +kernel
theorem d0_6 : decode method_2_code 6 = .ok (.ldc2_w 7, 3) := by decide +kernel
theorem d0_9 : decode method_2_code 9 = .ok (.land, 1) := by decide +kernel
theorem d0_10 : decode method_2_code 10 = .ok (.ldc2_w 9, 3) := by decide +kernel
theorem d0_13 : decode method_2_code 13 = .ok (.lsub, 1) := by decide +kernel
theorem d0_14 : decode method_2_code 14 = .ok (.lreturn, 1) := by decide +kernel
theorem pd_0 : parseMethodDescriptor "(JI)J" = some ⟨[.long, .int], some .long⟩ := by decide +kernel
theorem pn_0 : plainFor (⟨"com/example/twelvefold/twelvefold/FrameTransformMatrixTimesPinLaw", "part", "(JI)J"⟩ : MethodName) = true := plainFor_of_name (by show plainName "com/example/twelvefold/twelvefold/FrameTransformMatrixTimesPinLaw" = true; first | (simp [plainName, overriddenIn]; done) | decide +kernel)
set_option maxRecDepth 65536 in
set_option maxHeartbeats 40000000 in
theorem rm_part (l : Launch) (Z : State) (a0 : Array Value) (hw : ∀ d ∈ tables_1, d.before a0 Z = true) (ws : List Jvm.Cond) (i0 : Int64) (i1 : Int32) (h0 : Heap) (n0 : Nat) (Z0 : n0 ≤ h0.size)  :
    Ct l Z (⟨"com/example/twelvefold/twelvefold/FrameTransformMatrixTimesPinLaw", "part", "(JI)J"⟩ : MethodName) method_2_code 3 (some .long) ws ({ frames := 0, cells := 0, slots := 0, locals := 0 } : Room) #[.long i0, .int i1] h0 (fun v h L => ∃ z : Int64, v = some (.long z) ∧ Lb 3145728 z.toInt z ∧ Fr n0 L ∧ h = h0) := by
  refine Ct.intro pn_0 #[.val (.long i0), .second, .val (.int i1)] (fun _ => by first | (simp [entryFrame, mkF, argsToLocals, Value.category, maxLocals]; done) | rfl) ?_
  intro p e s m below meth c T0 X0 hx hZ hby hml hown hnm hret hlk e0
  have N0 := Fr.nil n0
  obtain ⟨z, hz⟩ := part_lb i0 (21 * i1)
  refine s_lloadN X0 hx (hb hby d0_0) rfl 1 rfl ?_
  refine s_bipush X0 hx (hb hby d0_1) (21 : Int32) rfl 3 rfl ?_
  refine s_iloadN X0 hx (hb hby d0_3) rfl 4 rfl ?_
  refine s_imul X0 hx (hb hby d0_4) ((21 : Int32) * i1) rfl 5 rfl ?_
  refine s_lushr X0 hx (hb hby d0_5) (XT.ushrL i0 ((21 : Int32) * i1)) rfl 6 rfl ?_
  refine s_ldc2J X0 hx (hb hby d0_6) hZ hown (wd hw 5 _ rfl) 9 rfl ?_
  refine s_land X0 hx (hb hby d0_9) ((XT.ushrL i0 ((21 : Int32) * i1)) &&& (2097151 : Int64)) rfl 10 rfl ?_
  refine s_ldc2J X0 hx (hb hby d0_10) hZ hown (wd hw 6 _ rfl) 13 rfl ?_
  refine s_lsub X0 hx (hb hby d0_13) z hz.1 14 rfl ?_
  exact retJ X0 hx hlk hret (hb hby d0_14) e0 ⟨_, rfl, hz.2, N0, rfl⟩ (by decide) (by decide)
theorem d5_0 : decode prog_6_method_2_code 0 = .ok (.iconst 3, 1) := by decide +kernel
theorem d5_1 : decode prog_6_method_2_code 1 = .ok (.iload_n 0, 1) := by decide +kernel
theorem d5_2 : decode prog_6_method_2_code 2 = .ok (.imul, 1) := by decide +kernel
theorem d5_3 : decode prog_6_method_2_code 3 = .ok (.iload_n 1, 1) := by decide +kernel
theorem d5_4 : decode prog_6_method_2_code 4 = .ok (.iadd, 1) := by decide +kernel
theorem d5_5 : decode prog_6_method_2_code 5 = .ok (.ireturn, 1) := by decide +kernel
theorem pd_5 : parseMethodDescriptor "(II)I" = some ⟨[.int, .int], some .int⟩ := by decide +kernel
theorem pn_5 : plainFor (⟨"com/example/twelvefold/twelvefold/FrameTransformMatrix", "at", "(II)I"⟩ : MethodName) = true := plainFor_of_name (by show plainName "com/example/twelvefold/twelvefold/FrameTransformMatrix" = true; first | (simp [plainName, overriddenIn]; done) | decide +kernel)
set_option maxRecDepth 65536 in
set_option maxHeartbeats 40000000 in
theorem rm_at (l : Launch) (Z : State) (a0 : Array Value) (hw : ∀ d ∈ tables_1, d.before a0 Z = true) (ws : List Jvm.Cond) (i0 i1 r : Int32) (h0 : Heap) (n0 : Nat) (Z0 : n0 ≤ h0.size) (hr : (3 : Int32) * i0 + i1 = r) :
    Ct l Z (⟨"com/example/twelvefold/twelvefold/FrameTransformMatrix", "at", "(II)I"⟩ : MethodName) prog_6_method_2_code 2 (some .int) ws ({ frames := 0, cells := 0, slots := 0, locals := 0 } : Room) #[.int i0, .int i1] h0 (fun v h L => v = some (.int r) ∧ Fr n0 L ∧ h = h0) := by
  refine Ct.intro pn_5 #[.val (.int i0), .val (.int i1)] (fun _ => by first | (simp [entryFrame, mkF, argsToLocals, Value.category, maxLocals]; done) | rfl) ?_
  intro p e s m below meth c T0 X0 hx hZ hby hml hown hnm hret hlk e0
  have N0 := Fr.nil n0
  refine s_iconst X0 hx (hb hby d5_0) (3 : Int32) rfl 1 rfl ?_
  refine s_iloadN X0 hx (hb hby d5_1) rfl 2 rfl ?_
  refine s_imul X0 hx (hb hby d5_2) ((3 : Int32) * i0) rfl 3 rfl ?_
  refine s_iloadN X0 hx (hb hby d5_3) rfl 4 rfl ?_
  refine s_iadd X0 hx (hb hby d5_4) (((3 : Int32) * i0) + i1) rfl 5 rfl ?_
  exact retI X0 hx hlk hret (hb hby d5_5) e0 ⟨by rw [hr], N0, rfl⟩ (by decide) (by decide)
theorem d6_0 : decode prog_6_method_13_code 0 = .ok (.aload_n 0, 1) := by decide +kernel
theorem d6_1 : decode prog_6_method_13_code 1 = .ok (.iload_n 1, 1) := by decide +kernel
theorem d6_2 : decode prog_6_method_13_code 2 = .ok (.iconst 0, 1) := by decide +kernel
theorem d6_3 : decode prog_6_method_13_code 3 = .ok (.invokestatic 49, 3) := by decide +kernel
theorem d6_6 : decode prog_6_method_13_code 6 = .ok (.daload, 1) := by decide +kernel
theorem d6_7 : decode prog_6_method_13_code 7 = .ok (.aload_n 2, 1) := by decide +kernel
theorem d6_8 : decode prog_6_method_13_code 8 = .ok (.iload_n 3, 1) := by decide +kernel
theorem d6_9 : decode prog_6_method_13_code 9 = .ok (.iconst 0, 1) := by decide +kernel
theorem d6_10 : decode prog_6_method_13_code 10 = .ok (.invokestatic 49, 3) := by decide +kernel
theorem d6_13 : decode prog_6_method_13_code 13 = .ok (.daload, 1) := by decide +kernel
theorem d6_14 : decode prog_6_method_13_code 14 = .ok (.dmul, 1) := by decide +kernel
theorem d6_15 : decode prog_6_method_13_code 15 = .ok (.aload_n 0, 1) := by decide +kernel
theorem d6_16 : decode prog_6_method_13_code 16 = .ok (.iload_n 1, 1) := by decide +kernel
theorem d6_17 : decode prog_6_method_13_code 17 = .ok (.iconst 1, 1) := by decide +kernel
theorem d6_18 : decode prog_6_method_13_code 18 = .ok (.invokestatic 49, 3) := by decide +kernel
theorem d6_21 : decode prog_6_method_13_code 21 = .ok (.daload, 1) := by decide +kernel
theorem d6_22 : decode prog_6_method_13_code 22 = .ok (.aload_n 2, 1) := by decide +kernel
theorem d6_23 : decode prog_6_method_13_code 23 = .ok (.iload_n 3, 1) := by decide +kernel
theorem d6_24 : decode prog_6_method_13_code 24 = .ok (.iconst 1, 1) := by decide +kernel
theorem d6_25 : decode prog_6_method_13_code 25 = .ok (.invokestatic 49, 3) := by decide +kernel
theorem d6_28 : decode prog_6_method_13_code 28 = .ok (.daload, 1) := by decide +kernel
theorem d6_29 : decode prog_6_method_13_code 29 = .ok (.dmul, 1) := by decide +kernel
theorem d6_30 : decode prog_6_method_13_code 30 = .ok (.dadd, 1) := by decide +kernel
theorem d6_31 : decode prog_6_method_13_code 31 = .ok (.aload_n 0, 1) := by decide +kernel
theorem d6_32 : decode prog_6_method_13_code 32 = .ok (.iload_n 1, 1) := by decide +kernel
theorem d6_33 : decode prog_6_method_13_code 33 = .ok (.iconst 2, 1) := by decide +kernel
theorem d6_34 : decode prog_6_method_13_code 34 = .ok (.invokestatic 49, 3) := by decide +kernel
theorem d6_37 : decode prog_6_method_13_code 37 = .ok (.daload, 1) := by decide +kernel
theorem d6_38 : decode prog_6_method_13_code 38 = .ok (.aload_n 2, 1) := by decide +kernel
theorem d6_39 : decode prog_6_method_13_code 39 = .ok (.iload_n 3, 1) := by decide +kernel
theorem d6_40 : decode prog_6_method_13_code 40 = .ok (.iconst 2, 1) := by decide +kernel
theorem d6_41 : decode prog_6_method_13_code 41 = .ok (.invokestatic 49, 3) := by decide +kernel
theorem d6_44 : decode prog_6_method_13_code 44 = .ok (.daload, 1) := by decide +kernel
theorem d6_45 : decode prog_6_method_13_code 45 = .ok (.dmul, 1) := by decide +kernel
theorem d6_46 : decode prog_6_method_13_code 46 = .ok (.dadd, 1) := by decide +kernel
theorem d6_47 : decode prog_6_method_13_code 47 = .ok (.dreturn, 1) := by decide +kernel
theorem pd_6 : parseMethodDescriptor "([DI[DI)D" = some ⟨[.array .double, .int, .array .double, .int], some .double⟩ := by decide +kernel
theorem pn_6 : plainFor (⟨"com/example/twelvefold/twelvefold/FrameTransformMatrix", "rowDot", "([DI[DI)D"⟩ : MethodName) = true := plainFor_of_name (by show plainName "com/example/twelvefold/twelvefold/FrameTransformMatrix" = true; first | (simp [plainName, overriddenIn]; done) | decide +kernel)
set_option maxRecDepth 65536 in
set_option maxHeartbeats 40000000 in
theorem rm_dot00 (l : Launch) (Z : State) (a0 : Array Value) (hw : ∀ d ∈ tables_1, d.before a0 Z = true) (ws : List Jvm.Cond) (a1 a2 : Addr) (k1 k2 : ClassId) (x0 x1 x2 x3 x4 x5 x6 x7 x8 y0 y1 y2 y3 y4 y5 y6 y7 y8 : UInt64) (U0 U1 U2 U3 U4 U5 U6 U7 U8 W0 W1 W2 W3 W4 W5 W6 W7 W8 : Int) (h0 : Heap) (n0 : Nat) (Z0 : n0 ≤ h0.size) (A1 : AR Z h0 a1 k1 .double [.double x0, .double x1, .double x2, .double x3, .double x4, .double x5, .double x6, .double x7, .double x8]) (A2 : AR Z h0 a2 k2 .double [.double y0, .double y1, .double y2, .double y3, .double y4, .double y5, .double y6, .double y7, .double y8]) (HX0 : Db 3145728 U0 0 x0) (HX1 : Db 3145728 U1 0 x1) (HX2 : Db 3145728 U2 0 x2) (HX3 : Db 3145728 U3 0 x3) (HX4 : Db 3145728 U4 0 x4) (HX5 : Db 3145728 U5 0 x5) (HX6 : Db 3145728 U6 0 x6) (HX7 : Db 3145728 U7 0 x7) (HX8 : Db 3145728 U8 0 x8) (HY0 : Db 3145728 W0 0 y0) (HY1 : Db 3145728 W1 0 y1) (HY2 : Db 3145728 W2 0 y2) (HY3 : Db 3145728 W3 0 y3) (HY4 : Db 3145728 W4 0 y4) (HY5 : Db 3145728 W5 0 y5) (HY6 : Db 3145728 W6 0 y6) (HY7 : Db 3145728 W7 0 y7) (HY8 : Db 3145728 W8 0 y8) :
    Ct l Z (⟨"com/example/twelvefold/twelvefold/FrameTransformMatrix", "rowDot", "([DI[DI)D"⟩ : MethodName) prog_6_method_13_code 4 (some .double) ws ({ frames := 1, cells := 0, slots := 0, locals := 18 } : Room) #[.ref a1, .int (0 : Int32), .ref a2, .int (0 : Int32)] h0 (fun v h L => ∃ d, v = some (.double d) ∧ Db (3145728 * 3145728 + 3145728 * 3145728 + 3145728 * 3145728) (U0 * W0 + U1 * W1 + U2 * W2) 0 d ∧ Fr n0 L ∧ h = h0) := by
  refine Ct.intro pn_6 #[.val (.ref a1), .val (.int (0 : Int32)), .val (.ref a2), .val (.int (0 : Int32))] (fun _ => by first | (simp [entryFrame, mkF, argsToLocals, Value.category, maxLocals]; done) | rfl) ?_
  intro p e s m below meth c T0 X0 hx hZ hby hml hown hnm hret hlk e0
  have N0 := Fr.nil n0
  refine s_aloadN X0 hx (hb hby d6_0) rfl rfl 1 rfl ?_
  refine s_iloadN X0 hx (hb hby d6_1) rfl 2 rfl ?_
  refine s_iconst X0 hx (hb hby d6_2) (0 : Int32) rfl 3 rfl ?_
  obtain ⟨v7, T7, L7, X7, hQ7, st7⟩ := callStat X0 hx hZ hown (wd hw 28 _ rfl) (wd hw 29 _ rfl) (wd hw 10 _ rfl) (wd hw 30 _ rfl) (by decide) (rm_at l Z a0 hw [] (0 : Int32) (0 : Int32) (0 : Int32) h0 n0 Z0 (by decide)) e0 (L := #[.val (.ref a1), .val (.int (0 : Int32)), .val (.ref a2), .val (.int (0 : Int32))]) (hb hby d6_3) (by rw [hml]; rfl) [.int (0 : Int32), .int (0 : Int32)] [.ref a1] rfl rfl pd_5 rfl 1 (by show 2 * 0 + _ ≤ _; exact Nat.le_of_eq rfl) (by decide) (by decide) (by decide) (by decide)
  obtain ⟨rfl, N7, hh7⟩ := hQ7
  have M7 := Fr.app N0 N7
  refine Go.via st7 ?_
  show Go p e below _ (T7.setTop (mkF m 6 #[.val (.ref a1), .val (.int (0 : Int32)), .val (.ref a2), .val (.int (0 : Int32))] [.int (0 : Int32), .ref a1]))
  refine s_daload X7 hx hZ hh7 A1 (hb hby d6_6) (j := (0 : Int32)) 0 (by decide) (.double x0) rfl 7 rfl ?_
  refine s_aloadN X7 hx (hb hby d6_7) rfl rfl 8 rfl ?_
  refine s_iloadN X7 hx (hb hby d6_8) rfl 9 rfl ?_
  refine s_iconst X7 hx (hb hby d6_9) (0 : Int32) rfl 10 rfl ?_
  obtain ⟨v8, T8, L8, X8, hQ8, st8⟩ := callStat X7 hx hZ hown (wd hw 28 _ rfl) (wd hw 29 _ rfl) (wd hw 10 _ rfl) (wd hw 30 _ rfl) (by decide) (rm_at l Z a0 hw [] (0 : Int32) (0 : Int32) (0 : Int32) h0 n0 Z0 (by decide)) hh7 (L := #[.val (.ref a1), .val (.int (0 : Int32)), .val (.ref a2), .val (.int (0 : Int32))]) (hb hby d6_10) (by rw [hml]; rfl) [.int (0 : Int32), .int (0 : Int32)] [.ref a2, .double x0] rfl rfl pd_5 rfl 3 (by show 2 * 0 + _ ≤ _; exact Nat.le_of_eq rfl) (by decide) (by decide) (by decide) (by decide)
  obtain ⟨rfl, N8, hh8⟩ := hQ8
  have M8 := Fr.app M7 N8
  refine Go.via st8 ?_
  show Go p e below _ (T8.setTop (mkF m 13 #[.val (.ref a1), .val (.int (0 : Int32)), .val (.ref a2), .val (.int (0 : Int32))] [.int (0 : Int32), .ref a2, .double x0]))
  refine s_daload X8 hx hZ hh8 A2 (hb hby d6_13) (j := (0 : Int32)) 0 (by decide) (.double y0) rfl 14 rfl ?_
  have Dd9 := Db.mul HX0 HY0 (by decide)
  obtain ⟨d9, h_d9⟩ : ∃ v, FP.dmul x0 y0 = v := ⟨_, rfl⟩
  rw [h_d9] at Dd9
  refine s_dmul X8 hx (hb hby d6_14) d9 h_d9 Dd9.nn 15 rfl ?_
  refine s_aloadN X8 hx (hb hby d6_15) rfl rfl 16 rfl ?_
  refine s_iloadN X8 hx (hb hby d6_16) rfl 17 rfl ?_
  refine s_iconst X8 hx (hb hby d6_17) (1 : Int32) rfl 18 rfl ?_
  obtain ⟨v10, T10, L10, X10, hQ10, st10⟩ := callStat X8 hx hZ hown (wd hw 28 _ rfl) (wd hw 29 _ rfl) (wd hw 10 _ rfl) (wd hw 30 _ rfl) (by decide) (rm_at l Z a0 hw [] (0 : Int32) (1 : Int32) (1 : Int32) h0 n0 Z0 (by decide)) hh8 (L := #[.val (.ref a1), .val (.int (0 : Int32)), .val (.ref a2), .val (.int (0 : Int32))]) (hb hby d6_18) (by rw [hml]; rfl) [.int (0 : Int32), .int (1 : Int32)] [.ref a1, .double d9] rfl rfl pd_5 rfl 3 (by show 2 * 0 + _ ≤ _; exact Nat.le_of_eq rfl) (by decide) (by decide) (by decide) (by decide)
  obtain ⟨rfl, N10, hh10⟩ := hQ10
  have M10 := Fr.app M8 N10
  refine Go.via st10 ?_
  show Go p e below _ (T10.setTop (mkF m 21 #[.val (.ref a1), .val (.int (0 : Int32)), .val (.ref a2), .val (.int (0 : Int32))] [.int (1 : Int32), .ref a1, .double d9]))
  refine s_daload X10 hx hZ hh10 A1 (hb hby d6_21) (j := (1 : Int32)) 1 (by decide) (.double x1) rfl 22 rfl ?_
  refine s_aloadN X10 hx (hb hby d6_22) rfl rfl 23 rfl ?_
  refine s_iloadN X10 hx (hb hby d6_23) rfl 24 rfl ?_
  refine s_iconst X10 hx (hb hby d6_24) (1 : Int32) rfl 25 rfl ?_
  obtain ⟨v11, T11, L11, X11, hQ11, st11⟩ := callStat X10 hx hZ hown (wd hw 28 _ rfl) (wd hw 29 _ rfl) (wd hw 10 _ rfl) (wd hw 30 _ rfl) (by decide) (rm_at l Z a0 hw [] (0 : Int32) (1 : Int32) (1 : Int32) h0 n0 Z0 (by decide)) hh10 (L := #[.val (.ref a1), .val (.int (0 : Int32)), .val (.ref a2), .val (.int (0 : Int32))]) (hb hby d6_25) (by rw [hml]; rfl) [.int (0 : Int32), .int (1 : Int32)] [.ref a2, .double x1, .double d9] rfl rfl pd_5 rfl 5 (by show 2 * 0 + _ ≤ _; exact Nat.le_of_eq rfl) (by decide) (by decide) (by decide) (by decide)
  obtain ⟨rfl, N11, hh11⟩ := hQ11
  have M11 := Fr.app M10 N11
  refine Go.via st11 ?_
  show Go p e below _ (T11.setTop (mkF m 28 #[.val (.ref a1), .val (.int (0 : Int32)), .val (.ref a2), .val (.int (0 : Int32))] [.int (1 : Int32), .ref a2, .double x1, .double d9]))
  refine s_daload X11 hx hZ hh11 A2 (hb hby d6_28) (j := (1 : Int32)) 1 (by decide) (.double y1) rfl 29 rfl ?_
  have Dd12 := Db.mul HX1 HY1 (by decide)
  obtain ⟨d12, h_d12⟩ : ∃ v, FP.dmul x1 y1 = v := ⟨_, rfl⟩
  rw [h_d12] at Dd12
  refine s_dmul X11 hx (hb hby d6_29) d12 h_d12 Dd12.nn 30 rfl ?_
  have Dd13 := Db.add Dd9 Dd12 (by decide)
  obtain ⟨d13, h_d13⟩ : ∃ v, FP.dadd d9 d12 = v := ⟨_, rfl⟩
  rw [h_d13] at Dd13
  refine s_dadd X11 hx (hb hby d6_30) d13 h_d13 Dd13.nn 31 rfl ?_
  refine s_aloadN X11 hx (hb hby d6_31) rfl rfl 32 rfl ?_
  refine s_iloadN X11 hx (hb hby d6_32) rfl 33 rfl ?_
  refine s_iconst X11 hx (hb hby d6_33) (2 : Int32) rfl 34 rfl ?_
  obtain ⟨v14, T14, L14, X14, hQ14, st14⟩ := callStat X11 hx hZ hown (wd hw 28 _ rfl) (wd hw 29 _ rfl) (wd hw 10 _ rfl) (wd hw 30 _ rfl) (by decide) (rm_at l Z a0 hw [] (0 : Int32) (2 : Int32) (2 : Int32) h0 n0 Z0 (by decide)) hh11 (L := #[.val (.ref a1), .val (.int (0 : Int32)), .val (.ref a2), .val (.int (0 : Int32))]) (hb hby d6_34) (by rw [hml]; rfl) [.int (0 : Int32), .int (2 : Int32)] [.ref a1, .double d13] rfl rfl pd_5 rfl 3 (by show 2 * 0 + _ ≤ _; exact Nat.le_of_eq rfl) (by decide) (by decide) (by decide) (by decide)
  obtain ⟨rfl, N14, hh14⟩ := hQ14
  have M14 := Fr.app M11 N14
  refine Go.via st14 ?_
  show Go p e below _ (T14.setTop (mkF m 37 #[.val (.ref a1), .val (.int (0 : Int32)), .val (.ref a2), .val (.int (0 : Int32))] [.int (2 : Int32), .ref a1, .double d13]))
  refine s_daload X14 hx hZ hh14 A1 (hb hby d6_37) (j := (2 : Int32)) 2 (by decide) (.double x2) rfl 38 rfl ?_
  refine s_aloadN X14 hx (hb hby d6_38) rfl rfl 39 rfl ?_
  refine s_iloadN X14 hx (hb hby d6_39) rfl 40 rfl ?_
  refine s_iconst X14 hx (hb hby d6_40) (2 : Int32) rfl 41 rfl ?_
  obtain ⟨v15, T15, L15, X15, hQ15, st15⟩ := callStat X14 hx hZ hown (wd hw 28 _ rfl) (wd hw 29 _ rfl) (wd hw 10 _ rfl) (wd hw 30 _ rfl) (by decide) (rm_at l Z a0 hw [] (0 : Int32) (2 : Int32) (2 : Int32) h0 n0 Z0 (by decide)) hh14 (L := #[.val (.ref a1), .val (.int (0 : Int32)), .val (.ref a2), .val (.int (0 : Int32))]) (hb hby d6_41) (by rw [hml]; rfl) [.int (0 : Int32), .int (2 : Int32)] [.ref a2, .double x2, .double d13] rfl rfl pd_5 rfl 5 (by show 2 * 0 + _ ≤ _; exact Nat.le_of_eq rfl) (by decide) (by decide) (by decide) (by decide)
  obtain ⟨rfl, N15, hh15⟩ := hQ15
  have M15 := Fr.app M14 N15
  refine Go.via st15 ?_
  show Go p e below _ (T15.setTop (mkF m 44 #[.val (.ref a1), .val (.int (0 : Int32)), .val (.ref a2), .val (.int (0 : Int32))] [.int (2 : Int32), .ref a2, .double x2, .double d13]))
  refine s_daload X15 hx hZ hh15 A2 (hb hby d6_44) (j := (2 : Int32)) 2 (by decide) (.double y2) rfl 45 rfl ?_
  have Dd16 := Db.mul HX2 HY2 (by decide)
  obtain ⟨d16, h_d16⟩ : ∃ v, FP.dmul x2 y2 = v := ⟨_, rfl⟩
  rw [h_d16] at Dd16
  refine s_dmul X15 hx (hb hby d6_45) d16 h_d16 Dd16.nn 46 rfl ?_
  have Dd17 := Db.add Dd13 Dd16 (by decide)
  obtain ⟨d17, h_d17⟩ : ∃ v, FP.dadd d13 d16 = v := ⟨_, rfl⟩
  rw [h_d17] at Dd17
  refine s_dadd X15 hx (hb hby d6_46) d17 h_d17 Dd17.nn 47 rfl ?_
  exact retD X15 hx hlk hret (hb hby d6_47) hh15 ⟨_, rfl, Dd17, M15, rfl⟩ (by decide) (by decide)
set_option maxRecDepth 65536 in
set_option maxHeartbeats 40000000 in
theorem rm_dot01 (l : Launch) (Z : State) (a0 : Array Value) (hw : ∀ d ∈ tables_1, d.before a0 Z = true) (ws : List Jvm.Cond) (a1 a2 : Addr) (k1 k2 : ClassId) (x0 x1 x2 x3 x4 x5 x6 x7 x8 y0 y1 y2 y3 y4 y5 y6 y7 y8 : UInt64) (U0 U1 U2 U3 U4 U5 U6 U7 U8 W0 W1 W2 W3 W4 W5 W6 W7 W8 : Int) (h0 : Heap) (n0 : Nat) (Z0 : n0 ≤ h0.size) (A1 : AR Z h0 a1 k1 .double [.double x0, .double x1, .double x2, .double x3, .double x4, .double x5, .double x6, .double x7, .double x8]) (A2 : AR Z h0 a2 k2 .double [.double y0, .double y1, .double y2, .double y3, .double y4, .double y5, .double y6, .double y7, .double y8]) (HX0 : Db 3145728 U0 0 x0) (HX1 : Db 3145728 U1 0 x1) (HX2 : Db 3145728 U2 0 x2) (HX3 : Db 3145728 U3 0 x3) (HX4 : Db 3145728 U4 0 x4) (HX5 : Db 3145728 U5 0 x5) (HX6 : Db 3145728 U6 0 x6) (HX7 : Db 3145728 U7 0 x7) (HX8 : Db 3145728 U8 0 x8) (HY0 : Db 3145728 W0 0 y0) (HY1 : Db 3145728 W1 0 y1) (HY2 : Db 3145728 W2 0 y2) (HY3 : Db 3145728 W3 0 y3) (HY4 : Db 3145728 W4 0 y4) (HY5 : Db 3145728 W5 0 y5) (HY6 : Db 3145728 W6 0 y6) (HY7 : Db 3145728 W7 0 y7) (HY8 : Db 3145728 W8 0 y8) :
    Ct l Z (⟨"com/example/twelvefold/twelvefold/FrameTransformMatrix", "rowDot", "([DI[DI)D"⟩ : MethodName) prog_6_method_13_code 4 (some .double) ws ({ frames := 1, cells := 0, slots := 0, locals := 18 } : Room) #[.ref a1, .int (0 : Int32), .ref a2, .int (1 : Int32)] h0 (fun v h L => ∃ d, v = some (.double d) ∧ Db (3145728 * 3145728 + 3145728 * 3145728 + 3145728 * 3145728) (U0 * W3 + U1 * W4 + U2 * W5) 0 d ∧ Fr n0 L ∧ h = h0) := by
  refine Ct.intro pn_6 #[.val (.ref a1), .val (.int (0 : Int32)), .val (.ref a2), .val (.int (1 : Int32))] (fun _ => by first | (simp [entryFrame, mkF, argsToLocals, Value.category, maxLocals]; done) | rfl) ?_
  intro p e s m below meth c T0 X0 hx hZ hby hml hown hnm hret hlk e0
  have N0 := Fr.nil n0
  refine s_aloadN X0 hx (hb hby d6_0) rfl rfl 1 rfl ?_
  refine s_iloadN X0 hx (hb hby d6_1) rfl 2 rfl ?_
  refine s_iconst X0 hx (hb hby d6_2) (0 : Int32) rfl 3 rfl ?_
  obtain ⟨v18, T18, L18, X18, hQ18, st18⟩ := callStat X0 hx hZ hown (wd hw 28 _ rfl) (wd hw 29 _ rfl) (wd hw 10 _ rfl) (wd hw 30 _ rfl) (by decide) (rm_at l Z a0 hw [] (0 : Int32) (0 : Int32) (0 : Int32) h0 n0 Z0 (by decide)) e0 (L := #[.val (.ref a1), .val (.int (0 : Int32)), .val (.ref a2), .val (.int (1 : Int32))]) (hb hby d6_3) (by rw [hml]; rfl) [.int (0 : Int32), .int (0 : Int32)] [.ref a1] rfl rfl pd_5 rfl 1 (by show 2 * 0 + _ ≤ _; exact Nat.le_of_eq rfl) (by decide) (by decide) (by decide) (by decide)
  obtain ⟨rfl, N18, hh18⟩ := hQ18
  have M18 := Fr.app N0 N18
  refine Go.via st18 ?_
  show Go p e below _ (T18.setTop (mkF m 6 #[.val (.ref a1), .val (.int (0 : Int32)), .val (.ref a2), .val (.int (1 : Int32))] [.int (0 : Int32), .ref a1]))
  refine s_daload X18 hx hZ hh18 A1 (hb hby d6_6) (j := (0 : Int32)) 0 (by decide) (.double x0) rfl 7 rfl ?_
  refine s_aloadN X18 hx (hb hby d6_7) rfl rfl 8 rfl ?_
  refine s_iloadN X18 hx (hb hby d6_8) rfl 9 rfl ?_
  refine s_iconst X18 hx (hb hby d6_9) (0 : Int32) rfl 10 rfl ?_
  obtain ⟨v19, T19, L19, X19, hQ19, st19⟩ := callStat X18 hx hZ hown (wd hw 28 _ rfl) (wd hw 29 _ rfl) (wd hw 10 _ rfl) (wd hw 30 _ rfl) (by decide) (rm_at l Z a0 hw [] (1 : Int32) (0 : Int32) (3 : Int32) h0 n0 Z0 (by decide)) hh18 (L := #[.val (.ref a1), .val (.int (0 : Int32)), .val (.ref a2), .val (.int (1 : Int32))]) (hb hby d6_10) (by rw [hml]; rfl) [.int (1 : Int32), .int (0 : Int32)] [.ref a2, .double x0] rfl rfl pd_5 rfl 3 (by show 2 * 0 + _ ≤ _; exact Nat.le_of_eq rfl) (by decide) (by decide) (by decide) (by decide)
  obtain ⟨rfl, N19, hh19⟩ := hQ19
  have M19 := Fr.app M18 N19
  refine Go.via st19 ?_
  show Go p e below _ (T19.setTop (mkF m 13 #[.val (.ref a1), .val (.int (0 : Int32)), .val (.ref a2), .val (.int (1 : Int32))] [.int (3 : Int32), .ref a2, .double x0]))
  refine s_daload X19 hx hZ hh19 A2 (hb hby d6_13) (j := (3 : Int32)) 3 (by decide) (.double y3) rfl 14 rfl ?_
  have Dd20 := Db.mul HX0 HY3 (by decide)
  obtain ⟨d20, h_d20⟩ : ∃ v, FP.dmul x0 y3 = v := ⟨_, rfl⟩
  rw [h_d20] at Dd20
  refine s_dmul X19 hx (hb hby d6_14) d20 h_d20 Dd20.nn 15 rfl ?_
  refine s_aloadN X19 hx (hb hby d6_15) rfl rfl 16 rfl ?_
  refine s_iloadN X19 hx (hb hby d6_16) rfl 17 rfl ?_
  refine s_iconst X19 hx (hb hby d6_17) (1 : Int32) rfl 18 rfl ?_
  obtain ⟨v21, T21, L21, X21, hQ21, st21⟩ := callStat X19 hx hZ hown (wd hw 28 _ rfl) (wd hw 29 _ rfl) (wd hw 10 _ rfl) (wd hw 30 _ rfl) (by decide) (rm_at l Z a0 hw [] (0 : Int32) (1 : Int32) (1 : Int32) h0 n0 Z0 (by decide)) hh19 (L := #[.val (.ref a1), .val (.int (0 : Int32)), .val (.ref a2), .val (.int (1 : Int32))]) (hb hby d6_18) (by rw [hml]; rfl) [.int (0 : Int32), .int (1 : Int32)] [.ref a1, .double d20] rfl rfl pd_5 rfl 3 (by show 2 * 0 + _ ≤ _; exact Nat.le_of_eq rfl) (by decide) (by decide) (by decide) (by decide)
  obtain ⟨rfl, N21, hh21⟩ := hQ21
  have M21 := Fr.app M19 N21
  refine Go.via st21 ?_
  show Go p e below _ (T21.setTop (mkF m 21 #[.val (.ref a1), .val (.int (0 : Int32)), .val (.ref a2), .val (.int (1 : Int32))] [.int (1 : Int32), .ref a1, .double d20]))
  refine s_daload X21 hx hZ hh21 A1 (hb hby d6_21) (j := (1 : Int32)) 1 (by decide) (.double x1) rfl 22 rfl ?_
  refine s_aloadN X21 hx (hb hby d6_22) rfl rfl 23 rfl ?_
  refine s_iloadN X21 hx (hb hby d6_23) rfl 24 rfl ?_
  refine s_iconst X21 hx (hb hby d6_24) (1 : Int32) rfl 25 rfl ?_
  obtain ⟨v22, T22, L22, X22, hQ22, st22⟩ := callStat X21 hx hZ hown (wd hw 28 _ rfl) (wd hw 29 _ rfl) (wd hw 10 _ rfl) (wd hw 30 _ rfl) (by decide) (rm_at l Z a0 hw [] (1 : Int32) (1 : Int32) (4 : Int32) h0 n0 Z0 (by decide)) hh21 (L := #[.val (.ref a1), .val (.int (0 : Int32)), .val (.ref a2), .val (.int (1 : Int32))]) (hb hby d6_25) (by rw [hml]; rfl) [.int (1 : Int32), .int (1 : Int32)] [.ref a2, .double x1, .double d20] rfl rfl pd_5 rfl 5 (by show 2 * 0 + _ ≤ _; exact Nat.le_of_eq rfl) (by decide) (by decide) (by decide) (by decide)
  obtain ⟨rfl, N22, hh22⟩ := hQ22
  have M22 := Fr.app M21 N22
  refine Go.via st22 ?_
  show Go p e below _ (T22.setTop (mkF m 28 #[.val (.ref a1), .val (.int (0 : Int32)), .val (.ref a2), .val (.int (1 : Int32))] [.int (4 : Int32), .ref a2, .double x1, .double d20]))
  refine s_daload X22 hx hZ hh22 A2 (hb hby d6_28) (j := (4 : Int32)) 4 (by decide) (.double y4) rfl 29 rfl ?_
  have Dd23 := Db.mul HX1 HY4 (by decide)
  obtain ⟨d23, h_d23⟩ : ∃ v, FP.dmul x1 y4 = v := ⟨_, rfl⟩
  rw [h_d23] at Dd23
  refine s_dmul X22 hx (hb hby d6_29) d23 h_d23 Dd23.nn 30 rfl ?_
  have Dd24 := Db.add Dd20 Dd23 (by decide)
  obtain ⟨d24, h_d24⟩ : ∃ v, FP.dadd d20 d23 = v := ⟨_, rfl⟩
  rw [h_d24] at Dd24
  refine s_dadd X22 hx (hb hby d6_30) d24 h_d24 Dd24.nn 31 rfl ?_
  refine s_aloadN X22 hx (hb hby d6_31) rfl rfl 32 rfl ?_
  refine s_iloadN X22 hx (hb hby d6_32) rfl 33 rfl ?_
  refine s_iconst X22 hx (hb hby d6_33) (2 : Int32) rfl 34 rfl ?_
  obtain ⟨v25, T25, L25, X25, hQ25, st25⟩ := callStat X22 hx hZ hown (wd hw 28 _ rfl) (wd hw 29 _ rfl) (wd hw 10 _ rfl) (wd hw 30 _ rfl) (by decide) (rm_at l Z a0 hw [] (0 : Int32) (2 : Int32) (2 : Int32) h0 n0 Z0 (by decide)) hh22 (L := #[.val (.ref a1), .val (.int (0 : Int32)), .val (.ref a2), .val (.int (1 : Int32))]) (hb hby d6_34) (by rw [hml]; rfl) [.int (0 : Int32), .int (2 : Int32)] [.ref a1, .double d24] rfl rfl pd_5 rfl 3 (by show 2 * 0 + _ ≤ _; exact Nat.le_of_eq rfl) (by decide) (by decide) (by decide) (by decide)
  obtain ⟨rfl, N25, hh25⟩ := hQ25
  have M25 := Fr.app M22 N25
  refine Go.via st25 ?_
  show Go p e below _ (T25.setTop (mkF m 37 #[.val (.ref a1), .val (.int (0 : Int32)), .val (.ref a2), .val (.int (1 : Int32))] [.int (2 : Int32), .ref a1, .double d24]))
  refine s_daload X25 hx hZ hh25 A1 (hb hby d6_37) (j := (2 : Int32)) 2 (by decide) (.double x2) rfl 38 rfl ?_
  refine s_aloadN X25 hx (hb hby d6_38) rfl rfl 39 rfl ?_
  refine s_iloadN X25 hx (hb hby d6_39) rfl 40 rfl ?_
  refine s_iconst X25 hx (hb hby d6_40) (2 : Int32) rfl 41 rfl ?_
  obtain ⟨v26, T26, L26, X26, hQ26, st26⟩ := callStat X25 hx hZ hown (wd hw 28 _ rfl) (wd hw 29 _ rfl) (wd hw 10 _ rfl) (wd hw 30 _ rfl) (by decide) (rm_at l Z a0 hw [] (1 : Int32) (2 : Int32) (5 : Int32) h0 n0 Z0 (by decide)) hh25 (L := #[.val (.ref a1), .val (.int (0 : Int32)), .val (.ref a2), .val (.int (1 : Int32))]) (hb hby d6_41) (by rw [hml]; rfl) [.int (1 : Int32), .int (2 : Int32)] [.ref a2, .double x2, .double d24] rfl rfl pd_5 rfl 5 (by show 2 * 0 + _ ≤ _; exact Nat.le_of_eq rfl) (by decide) (by decide) (by decide) (by decide)
  obtain ⟨rfl, N26, hh26⟩ := hQ26
  have M26 := Fr.app M25 N26
  refine Go.via st26 ?_
  show Go p e below _ (T26.setTop (mkF m 44 #[.val (.ref a1), .val (.int (0 : Int32)), .val (.ref a2), .val (.int (1 : Int32))] [.int (5 : Int32), .ref a2, .double x2, .double d24]))
  refine s_daload X26 hx hZ hh26 A2 (hb hby d6_44) (j := (5 : Int32)) 5 (by decide) (.double y5) rfl 45 rfl ?_
  have Dd27 := Db.mul HX2 HY5 (by decide)
  obtain ⟨d27, h_d27⟩ : ∃ v, FP.dmul x2 y5 = v := ⟨_, rfl⟩
  rw [h_d27] at Dd27
  refine s_dmul X26 hx (hb hby d6_45) d27 h_d27 Dd27.nn 46 rfl ?_
  have Dd28 := Db.add Dd24 Dd27 (by decide)
  obtain ⟨d28, h_d28⟩ : ∃ v, FP.dadd d24 d27 = v := ⟨_, rfl⟩
  rw [h_d28] at Dd28
  refine s_dadd X26 hx (hb hby d6_46) d28 h_d28 Dd28.nn 47 rfl ?_
  exact retD X26 hx hlk hret (hb hby d6_47) hh26 ⟨_, rfl, Dd28, M26, rfl⟩ (by decide) (by decide)
set_option maxRecDepth 65536 in
set_option maxHeartbeats 40000000 in
theorem rm_dot02 (l : Launch) (Z : State) (a0 : Array Value) (hw : ∀ d ∈ tables_1, d.before a0 Z = true) (ws : List Jvm.Cond) (a1 a2 : Addr) (k1 k2 : ClassId) (x0 x1 x2 x3 x4 x5 x6 x7 x8 y0 y1 y2 y3 y4 y5 y6 y7 y8 : UInt64) (U0 U1 U2 U3 U4 U5 U6 U7 U8 W0 W1 W2 W3 W4 W5 W6 W7 W8 : Int) (h0 : Heap) (n0 : Nat) (Z0 : n0 ≤ h0.size) (A1 : AR Z h0 a1 k1 .double [.double x0, .double x1, .double x2, .double x3, .double x4, .double x5, .double x6, .double x7, .double x8]) (A2 : AR Z h0 a2 k2 .double [.double y0, .double y1, .double y2, .double y3, .double y4, .double y5, .double y6, .double y7, .double y8]) (HX0 : Db 3145728 U0 0 x0) (HX1 : Db 3145728 U1 0 x1) (HX2 : Db 3145728 U2 0 x2) (HX3 : Db 3145728 U3 0 x3) (HX4 : Db 3145728 U4 0 x4) (HX5 : Db 3145728 U5 0 x5) (HX6 : Db 3145728 U6 0 x6) (HX7 : Db 3145728 U7 0 x7) (HX8 : Db 3145728 U8 0 x8) (HY0 : Db 3145728 W0 0 y0) (HY1 : Db 3145728 W1 0 y1) (HY2 : Db 3145728 W2 0 y2) (HY3 : Db 3145728 W3 0 y3) (HY4 : Db 3145728 W4 0 y4) (HY5 : Db 3145728 W5 0 y5) (HY6 : Db 3145728 W6 0 y6) (HY7 : Db 3145728 W7 0 y7) (HY8 : Db 3145728 W8 0 y8) :
    Ct l Z (⟨"com/example/twelvefold/twelvefold/FrameTransformMatrix", "rowDot", "([DI[DI)D"⟩ : MethodName) prog_6_method_13_code 4 (some .double) ws ({ frames := 1, cells := 0, slots := 0, locals := 18 } : Room) #[.ref a1, .int (0 : Int32), .ref a2, .int (2 : Int32)] h0 (fun v h L => ∃ d, v = some (.double d) ∧ Db (3145728 * 3145728 + 3145728 * 3145728 + 3145728 * 3145728) (U0 * W6 + U1 * W7 + U2 * W8) 0 d ∧ Fr n0 L ∧ h = h0) := by
  refine Ct.intro pn_6 #[.val (.ref a1), .val (.int (0 : Int32)), .val (.ref a2), .val (.int (2 : Int32))] (fun _ => by first | (simp [entryFrame, mkF, argsToLocals, Value.category, maxLocals]; done) | rfl) ?_
  intro p e s m below meth c T0 X0 hx hZ hby hml hown hnm hret hlk e0
  have N0 := Fr.nil n0
  refine s_aloadN X0 hx (hb hby d6_0) rfl rfl 1 rfl ?_
  refine s_iloadN X0 hx (hb hby d6_1) rfl 2 rfl ?_
  refine s_iconst X0 hx (hb hby d6_2) (0 : Int32) rfl 3 rfl ?_
  obtain ⟨v29, T29, L29, X29, hQ29, st29⟩ := callStat X0 hx hZ hown (wd hw 28 _ rfl) (wd hw 29 _ rfl) (wd hw 10 _ rfl) (wd hw 30 _ rfl) (by decide) (rm_at l Z a0 hw [] (0 : Int32) (0 : Int32) (0 : Int32) h0 n0 Z0 (by decide)) e0 (L := #[.val (.ref a1), .val (.int (0 : Int32)), .val (.ref a2), .val (.int (2 : Int32))]) (hb hby d6_3) (by rw [hml]; rfl) [.int (0 : Int32), .int (0 : Int32)] [.ref a1] rfl rfl pd_5 rfl 1 (by show 2 * 0 + _ ≤ _; exact Nat.le_of_eq rfl) (by decide) (by decide) (by decide) (by decide)
  obtain ⟨rfl, N29, hh29⟩ := hQ29
  have M29 := Fr.app N0 N29
  refine Go.via st29 ?_
  show Go p e below _ (T29.setTop (mkF m 6 #[.val (.ref a1), .val (.int (0 : Int32)), .val (.ref a2), .val (.int (2 : Int32))] [.int (0 : Int32), .ref a1]))
  refine s_daload X29 hx hZ hh29 A1 (hb hby d6_6) (j := (0 : Int32)) 0 (by decide) (.double x0) rfl 7 rfl ?_
  refine s_aloadN X29 hx (hb hby d6_7) rfl rfl 8 rfl ?_
  refine s_iloadN X29 hx (hb hby d6_8) rfl 9 rfl ?_
  refine s_iconst X29 hx (hb hby d6_9) (0 : Int32) rfl 10 rfl ?_
  obtain ⟨v30, T30, L30, X30, hQ30, st30⟩ := callStat X29 hx hZ hown (wd hw 28 _ rfl) (wd hw 29 _ rfl) (wd hw 10 _ rfl) (wd hw 30 _ rfl) (by decide) (rm_at l Z a0 hw [] (2 : Int32) (0 : Int32) (6 : Int32) h0 n0 Z0 (by decide)) hh29 (L := #[.val (.ref a1), .val (.int (0 : Int32)), .val (.ref a2), .val (.int (2 : Int32))]) (hb hby d6_10) (by rw [hml]; rfl) [.int (2 : Int32), .int (0 : Int32)] [.ref a2, .double x0] rfl rfl pd_5 rfl 3 (by show 2 * 0 + _ ≤ _; exact Nat.le_of_eq rfl) (by decide) (by decide) (by decide) (by decide)
  obtain ⟨rfl, N30, hh30⟩ := hQ30
  have M30 := Fr.app M29 N30
  refine Go.via st30 ?_
  show Go p e below _ (T30.setTop (mkF m 13 #[.val (.ref a1), .val (.int (0 : Int32)), .val (.ref a2), .val (.int (2 : Int32))] [.int (6 : Int32), .ref a2, .double x0]))
  refine s_daload X30 hx hZ hh30 A2 (hb hby d6_13) (j := (6 : Int32)) 6 (by decide) (.double y6) rfl 14 rfl ?_
  have Dd31 := Db.mul HX0 HY6 (by decide)
  obtain ⟨d31, h_d31⟩ : ∃ v, FP.dmul x0 y6 = v := ⟨_, rfl⟩
  rw [h_d31] at Dd31
  refine s_dmul X30 hx (hb hby d6_14) d31 h_d31 Dd31.nn 15 rfl ?_
  refine s_aloadN X30 hx (hb hby d6_15) rfl rfl 16 rfl ?_
  refine s_iloadN X30 hx (hb hby d6_16) rfl 17 rfl ?_
  refine s_iconst X30 hx (hb hby d6_17) (1 : Int32) rfl 18 rfl ?_
  obtain ⟨v32, T32, L32, X32, hQ32, st32⟩ := callStat X30 hx hZ hown (wd hw 28 _ rfl) (wd hw 29 _ rfl) (wd hw 10 _ rfl) (wd hw 30 _ rfl) (by decide) (rm_at l Z a0 hw [] (0 : Int32) (1 : Int32) (1 : Int32) h0 n0 Z0 (by decide)) hh30 (L := #[.val (.ref a1), .val (.int (0 : Int32)), .val (.ref a2), .val (.int (2 : Int32))]) (hb hby d6_18) (by rw [hml]; rfl) [.int (0 : Int32), .int (1 : Int32)] [.ref a1, .double d31] rfl rfl pd_5 rfl 3 (by show 2 * 0 + _ ≤ _; exact Nat.le_of_eq rfl) (by decide) (by decide) (by decide) (by decide)
  obtain ⟨rfl, N32, hh32⟩ := hQ32
  have M32 := Fr.app M30 N32
  refine Go.via st32 ?_
  show Go p e below _ (T32.setTop (mkF m 21 #[.val (.ref a1), .val (.int (0 : Int32)), .val (.ref a2), .val (.int (2 : Int32))] [.int (1 : Int32), .ref a1, .double d31]))
  refine s_daload X32 hx hZ hh32 A1 (hb hby d6_21) (j := (1 : Int32)) 1 (by decide) (.double x1) rfl 22 rfl ?_
  refine s_aloadN X32 hx (hb hby d6_22) rfl rfl 23 rfl ?_
  refine s_iloadN X32 hx (hb hby d6_23) rfl 24 rfl ?_
  refine s_iconst X32 hx (hb hby d6_24) (1 : Int32) rfl 25 rfl ?_
  obtain ⟨v33, T33, L33, X33, hQ33, st33⟩ := callStat X32 hx hZ hown (wd hw 28 _ rfl) (wd hw 29 _ rfl) (wd hw 10 _ rfl) (wd hw 30 _ rfl) (by decide) (rm_at l Z a0 hw [] (2 : Int32) (1 : Int32) (7 : Int32) h0 n0 Z0 (by decide)) hh32 (L := #[.val (.ref a1), .val (.int (0 : Int32)), .val (.ref a2), .val (.int (2 : Int32))]) (hb hby d6_25) (by rw [hml]; rfl) [.int (2 : Int32), .int (1 : Int32)] [.ref a2, .double x1, .double d31] rfl rfl pd_5 rfl 5 (by show 2 * 0 + _ ≤ _; exact Nat.le_of_eq rfl) (by decide) (by decide) (by decide) (by decide)
  obtain ⟨rfl, N33, hh33⟩ := hQ33
  have M33 := Fr.app M32 N33
  refine Go.via st33 ?_
  show Go p e below _ (T33.setTop (mkF m 28 #[.val (.ref a1), .val (.int (0 : Int32)), .val (.ref a2), .val (.int (2 : Int32))] [.int (7 : Int32), .ref a2, .double x1, .double d31]))
  refine s_daload X33 hx hZ hh33 A2 (hb hby d6_28) (j := (7 : Int32)) 7 (by decide) (.double y7) rfl 29 rfl ?_
  have Dd34 := Db.mul HX1 HY7 (by decide)
  obtain ⟨d34, h_d34⟩ : ∃ v, FP.dmul x1 y7 = v := ⟨_, rfl⟩
  rw [h_d34] at Dd34
  refine s_dmul X33 hx (hb hby d6_29) d34 h_d34 Dd34.nn 30 rfl ?_
  have Dd35 := Db.add Dd31 Dd34 (by decide)
  obtain ⟨d35, h_d35⟩ : ∃ v, FP.dadd d31 d34 = v := ⟨_, rfl⟩
  rw [h_d35] at Dd35
  refine s_dadd X33 hx (hb hby d6_30) d35 h_d35 Dd35.nn 31 rfl ?_
  refine s_aloadN X33 hx (hb hby d6_31) rfl rfl 32 rfl ?_
  refine s_iloadN X33 hx (hb hby d6_32) rfl 33 rfl ?_
  refine s_iconst X33 hx (hb hby d6_33) (2 : Int32) rfl 34 rfl ?_
  obtain ⟨v36, T36, L36, X36, hQ36, st36⟩ := callStat X33 hx hZ hown (wd hw 28 _ rfl) (wd hw 29 _ rfl) (wd hw 10 _ rfl) (wd hw 30 _ rfl) (by decide) (rm_at l Z a0 hw [] (0 : Int32) (2 : Int32) (2 : Int32) h0 n0 Z0 (by decide)) hh33 (L := #[.val (.ref a1), .val (.int (0 : Int32)), .val (.ref a2), .val (.int (2 : Int32))]) (hb hby d6_34) (by rw [hml]; rfl) [.int (0 : Int32), .int (2 : Int32)] [.ref a1, .double d35] rfl rfl pd_5 rfl 3 (by show 2 * 0 + _ ≤ _; exact Nat.le_of_eq rfl) (by decide) (by decide) (by decide) (by decide)
  obtain ⟨rfl, N36, hh36⟩ := hQ36
  have M36 := Fr.app M33 N36
  refine Go.via st36 ?_
  show Go p e below _ (T36.setTop (mkF m 37 #[.val (.ref a1), .val (.int (0 : Int32)), .val (.ref a2), .val (.int (2 : Int32))] [.int (2 : Int32), .ref a1, .double d35]))
  refine s_daload X36 hx hZ hh36 A1 (hb hby d6_37) (j := (2 : Int32)) 2 (by decide) (.double x2) rfl 38 rfl ?_
  refine s_aloadN X36 hx (hb hby d6_38) rfl rfl 39 rfl ?_
  refine s_iloadN X36 hx (hb hby d6_39) rfl 40 rfl ?_
  refine s_iconst X36 hx (hb hby d6_40) (2 : Int32) rfl 41 rfl ?_
  obtain ⟨v37, T37, L37, X37, hQ37, st37⟩ := callStat X36 hx hZ hown (wd hw 28 _ rfl) (wd hw 29 _ rfl) (wd hw 10 _ rfl) (wd hw 30 _ rfl) (by decide) (rm_at l Z a0 hw [] (2 : Int32) (2 : Int32) (8 : Int32) h0 n0 Z0 (by decide)) hh36 (L := #[.val (.ref a1), .val (.int (0 : Int32)), .val (.ref a2), .val (.int (2 : Int32))]) (hb hby d6_41) (by rw [hml]; rfl) [.int (2 : Int32), .int (2 : Int32)] [.ref a2, .double x2, .double d35] rfl rfl pd_5 rfl 5 (by show 2 * 0 + _ ≤ _; exact Nat.le_of_eq rfl) (by decide) (by decide) (by decide) (by decide)
  obtain ⟨rfl, N37, hh37⟩ := hQ37
  have M37 := Fr.app M36 N37
  refine Go.via st37 ?_
  show Go p e below _ (T37.setTop (mkF m 44 #[.val (.ref a1), .val (.int (0 : Int32)), .val (.ref a2), .val (.int (2 : Int32))] [.int (8 : Int32), .ref a2, .double x2, .double d35]))
  refine s_daload X37 hx hZ hh37 A2 (hb hby d6_44) (j := (8 : Int32)) 8 (by decide) (.double y8) rfl 45 rfl ?_
  have Dd38 := Db.mul HX2 HY8 (by decide)
  obtain ⟨d38, h_d38⟩ : ∃ v, FP.dmul x2 y8 = v := ⟨_, rfl⟩
  rw [h_d38] at Dd38
  refine s_dmul X37 hx (hb hby d6_45) d38 h_d38 Dd38.nn 46 rfl ?_
  have Dd39 := Db.add Dd35 Dd38 (by decide)
  obtain ⟨d39, h_d39⟩ : ∃ v, FP.dadd d35 d38 = v := ⟨_, rfl⟩
  rw [h_d39] at Dd39
  refine s_dadd X37 hx (hb hby d6_46) d39 h_d39 Dd39.nn 47 rfl ?_
  exact retD X37 hx hlk hret (hb hby d6_47) hh37 ⟨_, rfl, Dd39, M37, rfl⟩ (by decide) (by decide)
set_option maxRecDepth 65536 in
set_option maxHeartbeats 40000000 in
theorem rm_dot10 (l : Launch) (Z : State) (a0 : Array Value) (hw : ∀ d ∈ tables_1, d.before a0 Z = true) (ws : List Jvm.Cond) (a1 a2 : Addr) (k1 k2 : ClassId) (x0 x1 x2 x3 x4 x5 x6 x7 x8 y0 y1 y2 y3 y4 y5 y6 y7 y8 : UInt64) (U0 U1 U2 U3 U4 U5 U6 U7 U8 W0 W1 W2 W3 W4 W5 W6 W7 W8 : Int) (h0 : Heap) (n0 : Nat) (Z0 : n0 ≤ h0.size) (A1 : AR Z h0 a1 k1 .double [.double x0, .double x1, .double x2, .double x3, .double x4, .double x5, .double x6, .double x7, .double x8]) (A2 : AR Z h0 a2 k2 .double [.double y0, .double y1, .double y2, .double y3, .double y4, .double y5, .double y6, .double y7, .double y8]) (HX0 : Db 3145728 U0 0 x0) (HX1 : Db 3145728 U1 0 x1) (HX2 : Db 3145728 U2 0 x2) (HX3 : Db 3145728 U3 0 x3) (HX4 : Db 3145728 U4 0 x4) (HX5 : Db 3145728 U5 0 x5) (HX6 : Db 3145728 U6 0 x6) (HX7 : Db 3145728 U7 0 x7) (HX8 : Db 3145728 U8 0 x8) (HY0 : Db 3145728 W0 0 y0) (HY1 : Db 3145728 W1 0 y1) (HY2 : Db 3145728 W2 0 y2) (HY3 : Db 3145728 W3 0 y3) (HY4 : Db 3145728 W4 0 y4) (HY5 : Db 3145728 W5 0 y5) (HY6 : Db 3145728 W6 0 y6) (HY7 : Db 3145728 W7 0 y7) (HY8 : Db 3145728 W8 0 y8) :
    Ct l Z (⟨"com/example/twelvefold/twelvefold/FrameTransformMatrix", "rowDot", "([DI[DI)D"⟩ : MethodName) prog_6_method_13_code 4 (some .double) ws ({ frames := 1, cells := 0, slots := 0, locals := 18 } : Room) #[.ref a1, .int (1 : Int32), .ref a2, .int (0 : Int32)] h0 (fun v h L => ∃ d, v = some (.double d) ∧ Db (3145728 * 3145728 + 3145728 * 3145728 + 3145728 * 3145728) (U3 * W0 + U4 * W1 + U5 * W2) 0 d ∧ Fr n0 L ∧ h = h0) := by
  refine Ct.intro pn_6 #[.val (.ref a1), .val (.int (1 : Int32)), .val (.ref a2), .val (.int (0 : Int32))] (fun _ => by first | (simp [entryFrame, mkF, argsToLocals, Value.category, maxLocals]; done) | rfl) ?_
  intro p e s m below meth c T0 X0 hx hZ hby hml hown hnm hret hlk e0
  have N0 := Fr.nil n0
  refine s_aloadN X0 hx (hb hby d6_0) rfl rfl 1 rfl ?_
  refine s_iloadN X0 hx (hb hby d6_1) rfl 2 rfl ?_
  refine s_iconst X0 hx (hb hby d6_2) (0 : Int32) rfl 3 rfl ?_
  obtain ⟨v40, T40, L40, X40, hQ40, st40⟩ := callStat X0 hx hZ hown (wd hw 28 _ rfl) (wd hw 29 _ rfl) (wd hw 10 _ rfl) (wd hw 30 _ rfl) (by decide) (rm_at l Z a0 hw [] (1 : Int32) (0 : Int32) (3 : Int32) h0 n0 Z0 (by decide)) e0 (L := #[.val (.ref a1), .val (.int (1 : Int32)), .val (.ref a2), .val (.int (0 : Int32))]) (hb hby d6_3) (by rw [hml]; rfl) [.int (1 : Int32), .int (0 : Int32)] [.ref a1] rfl rfl pd_5 rfl 1 (by show 2 * 0 + _ ≤ _; exact Nat.le_of_eq rfl) (by decide) (by decide) (by decide) (by decide)
  obtain ⟨rfl, N40, hh40⟩ := hQ40
  have M40 := Fr.app N0 N40
  refine Go.via st40 ?_
  show Go p e below _ (T40.setTop (mkF m 6 #[.val (.ref a1), .val (.int (1 : Int32)), .val (.ref a2), .val (.int (0 : Int32))] [.int (3 : Int32), .ref a1]))
  refine s_daload X40 hx hZ hh40 A1 (hb hby d6_6) (j := (3 : Int32)) 3 (by decide) (.double x3) rfl 7 rfl ?_
  refine s_aloadN X40 hx (hb hby d6_7) rfl rfl 8 rfl ?_
  refine s_iloadN X40 hx (hb hby d6_8) rfl 9 rfl ?_
  refine s_iconst X40 hx (hb hby d6_9) (0 : Int32) rfl 10 rfl ?_
  obtain ⟨v41, T41, L41, X41, hQ41, st41⟩ := callStat X40 hx hZ hown (wd hw 28 _ rfl) (wd hw 29 _ rfl) (wd hw 10 _ rfl) (wd hw 30 _ rfl) (by decide) (rm_at l Z a0 hw [] (0 : Int32) (0 : Int32) (0 : Int32) h0 n0 Z0 (by decide)) hh40 (L := #[.val (.ref a1), .val (.int (1 : Int32)), .val (.ref a2), .val (.int (0 : Int32))]) (hb hby d6_10) (by rw [hml]; rfl) [.int (0 : Int32), .int (0 : Int32)] [.ref a2, .double x3] rfl rfl pd_5 rfl 3 (by show 2 * 0 + _ ≤ _; exact Nat.le_of_eq rfl) (by decide) (by decide) (by decide) (by decide)
  obtain ⟨rfl, N41, hh41⟩ := hQ41
  have M41 := Fr.app M40 N41
  refine Go.via st41 ?_
  show Go p e below _ (T41.setTop (mkF m 13 #[.val (.ref a1), .val (.int (1 : Int32)), .val (.ref a2), .val (.int (0 : Int32))] [.int (0 : Int32), .ref a2, .double x3]))
  refine s_daload X41 hx hZ hh41 A2 (hb hby d6_13) (j := (0 : Int32)) 0 (by decide) (.double y0) rfl 14 rfl ?_
  have Dd42 := Db.mul HX3 HY0 (by decide)
  obtain ⟨d42, h_d42⟩ : ∃ v, FP.dmul x3 y0 = v := ⟨_, rfl⟩
  rw [h_d42] at Dd42
  refine s_dmul X41 hx (hb hby d6_14) d42 h_d42 Dd42.nn 15 rfl ?_
  refine s_aloadN X41 hx (hb hby d6_15) rfl rfl 16 rfl ?_
  refine s_iloadN X41 hx (hb hby d6_16) rfl 17 rfl ?_
  refine s_iconst X41 hx (hb hby d6_17) (1 : Int32) rfl 18 rfl ?_
  obtain ⟨v43, T43, L43, X43, hQ43, st43⟩ := callStat X41 hx hZ hown (wd hw 28 _ rfl) (wd hw 29 _ rfl) (wd hw 10 _ rfl) (wd hw 30 _ rfl) (by decide) (rm_at l Z a0 hw [] (1 : Int32) (1 : Int32) (4 : Int32) h0 n0 Z0 (by decide)) hh41 (L := #[.val (.ref a1), .val (.int (1 : Int32)), .val (.ref a2), .val (.int (0 : Int32))]) (hb hby d6_18) (by rw [hml]; rfl) [.int (1 : Int32), .int (1 : Int32)] [.ref a1, .double d42] rfl rfl pd_5 rfl 3 (by show 2 * 0 + _ ≤ _; exact Nat.le_of_eq rfl) (by decide) (by decide) (by decide) (by decide)
  obtain ⟨rfl, N43, hh43⟩ := hQ43
  have M43 := Fr.app M41 N43
  refine Go.via st43 ?_
  show Go p e below _ (T43.setTop (mkF m 21 #[.val (.ref a1), .val (.int (1 : Int32)), .val (.ref a2), .val (.int (0 : Int32))] [.int (4 : Int32), .ref a1, .double d42]))
  refine s_daload X43 hx hZ hh43 A1 (hb hby d6_21) (j := (4 : Int32)) 4 (by decide) (.double x4) rfl 22 rfl ?_
  refine s_aloadN X43 hx (hb hby d6_22) rfl rfl 23 rfl ?_
  refine s_iloadN X43 hx (hb hby d6_23) rfl 24 rfl ?_
  refine s_iconst X43 hx (hb hby d6_24) (1 : Int32) rfl 25 rfl ?_
  obtain ⟨v44, T44, L44, X44, hQ44, st44⟩ := callStat X43 hx hZ hown (wd hw 28 _ rfl) (wd hw 29 _ rfl) (wd hw 10 _ rfl) (wd hw 30 _ rfl) (by decide) (rm_at l Z a0 hw [] (0 : Int32) (1 : Int32) (1 : Int32) h0 n0 Z0 (by decide)) hh43 (L := #[.val (.ref a1), .val (.int (1 : Int32)), .val (.ref a2), .val (.int (0 : Int32))]) (hb hby d6_25) (by rw [hml]; rfl) [.int (0 : Int32), .int (1 : Int32)] [.ref a2, .double x4, .double d42] rfl rfl pd_5 rfl 5 (by show 2 * 0 + _ ≤ _; exact Nat.le_of_eq rfl) (by decide) (by decide) (by decide) (by decide)
  obtain ⟨rfl, N44, hh44⟩ := hQ44
  have M44 := Fr.app M43 N44
  refine Go.via st44 ?_
  show Go p e below _ (T44.setTop (mkF m 28 #[.val (.ref a1), .val (.int (1 : Int32)), .val (.ref a2), .val (.int (0 : Int32))] [.int (1 : Int32), .ref a2, .double x4, .double d42]))
  refine s_daload X44 hx hZ hh44 A2 (hb hby d6_28) (j := (1 : Int32)) 1 (by decide) (.double y1) rfl 29 rfl ?_
  have Dd45 := Db.mul HX4 HY1 (by decide)
  obtain ⟨d45, h_d45⟩ : ∃ v, FP.dmul x4 y1 = v := ⟨_, rfl⟩
  rw [h_d45] at Dd45
  refine s_dmul X44 hx (hb hby d6_29) d45 h_d45 Dd45.nn 30 rfl ?_
  have Dd46 := Db.add Dd42 Dd45 (by decide)
  obtain ⟨d46, h_d46⟩ : ∃ v, FP.dadd d42 d45 = v := ⟨_, rfl⟩
  rw [h_d46] at Dd46
  refine s_dadd X44 hx (hb hby d6_30) d46 h_d46 Dd46.nn 31 rfl ?_
  refine s_aloadN X44 hx (hb hby d6_31) rfl rfl 32 rfl ?_
  refine s_iloadN X44 hx (hb hby d6_32) rfl 33 rfl ?_
  refine s_iconst X44 hx (hb hby d6_33) (2 : Int32) rfl 34 rfl ?_
  obtain ⟨v47, T47, L47, X47, hQ47, st47⟩ := callStat X44 hx hZ hown (wd hw 28 _ rfl) (wd hw 29 _ rfl) (wd hw 10 _ rfl) (wd hw 30 _ rfl) (by decide) (rm_at l Z a0 hw [] (1 : Int32) (2 : Int32) (5 : Int32) h0 n0 Z0 (by decide)) hh44 (L := #[.val (.ref a1), .val (.int (1 : Int32)), .val (.ref a2), .val (.int (0 : Int32))]) (hb hby d6_34) (by rw [hml]; rfl) [.int (1 : Int32), .int (2 : Int32)] [.ref a1, .double d46] rfl rfl pd_5 rfl 3 (by show 2 * 0 + _ ≤ _; exact Nat.le_of_eq rfl) (by decide) (by decide) (by decide) (by decide)
  obtain ⟨rfl, N47, hh47⟩ := hQ47
  have M47 := Fr.app M44 N47
  refine Go.via st47 ?_
  show Go p e below _ (T47.setTop (mkF m 37 #[.val (.ref a1), .val (.int (1 : Int32)), .val (.ref a2), .val (.int (0 : Int32))] [.int (5 : Int32), .ref a1, .double d46]))
  refine s_daload X47 hx hZ hh47 A1 (hb hby d6_37) (j := (5 : Int32)) 5 (by decide) (.double x5) rfl 38 rfl ?_
  refine s_aloadN X47 hx (hb hby d6_38) rfl rfl 39 rfl ?_
  refine s_iloadN X47 hx (hb hby d6_39) rfl 40 rfl ?_
  refine s_iconst X47 hx (hb hby d6_40) (2 : Int32) rfl 41 rfl ?_
  obtain ⟨v48, T48, L48, X48, hQ48, st48⟩ := callStat X47 hx hZ hown (wd hw 28 _ rfl) (wd hw 29 _ rfl) (wd hw 10 _ rfl) (wd hw 30 _ rfl) (by decide) (rm_at l Z a0 hw [] (0 : Int32) (2 : Int32) (2 : Int32) h0 n0 Z0 (by decide)) hh47 (L := #[.val (.ref a1), .val (.int (1 : Int32)), .val (.ref a2), .val (.int (0 : Int32))]) (hb hby d6_41) (by rw [hml]; rfl) [.int (0 : Int32), .int (2 : Int32)] [.ref a2, .double x5, .double d46] rfl rfl pd_5 rfl 5 (by show 2 * 0 + _ ≤ _; exact Nat.le_of_eq rfl) (by decide) (by decide) (by decide) (by decide)
  obtain ⟨rfl, N48, hh48⟩ := hQ48
  have M48 := Fr.app M47 N48
  refine Go.via st48 ?_
  show Go p e below _ (T48.setTop (mkF m 44 #[.val (.ref a1), .val (.int (1 : Int32)), .val (.ref a2), .val (.int (0 : Int32))] [.int (2 : Int32), .ref a2, .double x5, .double d46]))
  refine s_daload X48 hx hZ hh48 A2 (hb hby d6_44) (j := (2 : Int32)) 2 (by decide) (.double y2) rfl 45 rfl ?_
  have Dd49 := Db.mul HX5 HY2 (by decide)
  obtain ⟨d49, h_d49⟩ : ∃ v, FP.dmul x5 y2 = v := ⟨_, rfl⟩
  rw [h_d49] at Dd49
  refine s_dmul X48 hx (hb hby d6_45) d49 h_d49 Dd49.nn 46 rfl ?_
  have Dd50 := Db.add Dd46 Dd49 (by decide)
  obtain ⟨d50, h_d50⟩ : ∃ v, FP.dadd d46 d49 = v := ⟨_, rfl⟩
  rw [h_d50] at Dd50
  refine s_dadd X48 hx (hb hby d6_46) d50 h_d50 Dd50.nn 47 rfl ?_
  exact retD X48 hx hlk hret (hb hby d6_47) hh48 ⟨_, rfl, Dd50, M48, rfl⟩ (by decide) (by decide)
set_option maxRecDepth 65536 in
set_option maxHeartbeats 40000000 in
theorem rm_dot11 (l : Launch) (Z : State) (a0 : Array Value) (hw : ∀ d ∈ tables_1, d.before a0 Z = true) (ws : List Jvm.Cond) (a1 a2 : Addr) (k1 k2 : ClassId) (x0 x1 x2 x3 x4 x5 x6 x7 x8 y0 y1 y2 y3 y4 y5 y6 y7 y8 : UInt64) (U0 U1 U2 U3 U4 U5 U6 U7 U8 W0 W1 W2 W3 W4 W5 W6 W7 W8 : Int) (h0 : Heap) (n0 : Nat) (Z0 : n0 ≤ h0.size) (A1 : AR Z h0 a1 k1 .double [.double x0, .double x1, .double x2, .double x3, .double x4, .double x5, .double x6, .double x7, .double x8]) (A2 : AR Z h0 a2 k2 .double [.double y0, .double y1, .double y2, .double y3, .double y4, .double y5, .double y6, .double y7, .double y8]) (HX0 : Db 3145728 U0 0 x0) (HX1 : Db 3145728 U1 0 x1) (HX2 : Db 3145728 U2 0 x2) (HX3 : Db 3145728 U3 0 x3) (HX4 : Db 3145728 U4 0 x4) (HX5 : Db 3145728 U5 0 x5) (HX6 : Db 3145728 U6 0 x6) (HX7 : Db 3145728 U7 0 x7) (HX8 : Db 3145728 U8 0 x8) (HY0 : Db 3145728 W0 0 y0) (HY1 : Db 3145728 W1 0 y1) (HY2 : Db 3145728 W2 0 y2) (HY3 : Db 3145728 W3 0 y3) (HY4 : Db 3145728 W4 0 y4) (HY5 : Db 3145728 W5 0 y5) (HY6 : Db 3145728 W6 0 y6) (HY7 : Db 3145728 W7 0 y7) (HY8 : Db 3145728 W8 0 y8) :
    Ct l Z (⟨"com/example/twelvefold/twelvefold/FrameTransformMatrix", "rowDot", "([DI[DI)D"⟩ : MethodName) prog_6_method_13_code 4 (some .double) ws ({ frames := 1, cells := 0, slots := 0, locals := 18 } : Room) #[.ref a1, .int (1 : Int32), .ref a2, .int (1 : Int32)] h0 (fun v h L => ∃ d, v = some (.double d) ∧ Db (3145728 * 3145728 + 3145728 * 3145728 + 3145728 * 3145728) (U3 * W3 + U4 * W4 + U5 * W5) 0 d ∧ Fr n0 L ∧ h = h0) := by
  refine Ct.intro pn_6 #[.val (.ref a1), .val (.int (1 : Int32)), .val (.ref a2), .val (.int (1 : Int32))] (fun _ => by first | (simp [entryFrame, mkF, argsToLocals, Value.category, maxLocals]; done) | rfl) ?_
  intro p e s m below meth c T0 X0 hx hZ hby hml hown hnm hret hlk e0
  have N0 := Fr.nil n0
  refine s_aloadN X0 hx (hb hby d6_0) rfl rfl 1 rfl ?_
  refine s_iloadN X0 hx (hb hby d6_1) rfl 2 rfl ?_
  refine s_iconst X0 hx (hb hby d6_2) (0 : Int32) rfl 3 rfl ?_
  obtain ⟨v51, T51, L51, X51, hQ51, st51⟩ := callStat X0 hx hZ hown (wd hw 28 _ rfl) (wd hw 29 _ rfl) (wd hw 10 _ rfl) (wd hw 30 _ rfl) (by decide) (rm_at l Z a0 hw [] (1 : Int32) (0 : Int32) (3 : Int32) h0 n0 Z0 (by decide)) e0 (L := #[.val (.ref a1), .val (.int (1 : Int32)), .val (.ref a2), .val (.int (1 : Int32))]) (hb hby d6_3) (by rw [hml]; rfl) [.int (1 : Int32), .int (0 : Int32)] [.ref a1] rfl rfl pd_5 rfl 1 (by show 2 * 0 + _ ≤ _; exact Nat.le_of_eq rfl) (by decide) (by decide) (by decide) (by decide)
  obtain ⟨rfl, N51, hh51⟩ := hQ51
  have M51 := Fr.app N0 N51
  refine Go.via st51 ?_
  show Go p e below _ (T51.setTop (mkF m 6 #[.val (.ref a1), .val (.int (1 : Int32)), .val (.ref a2), .val (.int (1 : Int32))] [.int (3 : Int32), .ref a1]))
  refine s_daload X51 hx hZ hh51 A1 (hb hby d6_6) (j := (3 : Int32)) 3 (by decide) (.double x3) rfl 7 rfl ?_
  refine s_aloadN X51 hx (hb hby d6_7) rfl rfl 8 rfl ?_
  refine s_iloadN X51 hx (hb hby d6_8) rfl 9 rfl ?_
  refine s_iconst X51 hx (hb hby d6_9) (0 : Int32) rfl 10 rfl ?_
  obtain ⟨v52, T52, L52, X52, hQ52, st52⟩ := callStat X51 hx hZ hown (wd hw 28 _ rfl) (wd hw 29 _ rfl) (wd hw 10 _ rfl) (wd hw 30 _ rfl) (by decide) (rm_at l Z a0 hw [] (1 : Int32) (0 : Int32) (3 : Int32) h0 n0 Z0 (by decide)) hh51 (L := #[.val (.ref a1), .val (.int (1 : Int32)), .val (.ref a2), .val (.int (1 : Int32))]) (hb hby d6_10) (by rw [hml]; rfl) [.int (1 : Int32), .int (0 : Int32)] [.ref a2, .double x3] rfl rfl pd_5 rfl 3 (by show 2 * 0 + _ ≤ _; exact Nat.le_of_eq rfl) (by decide) (by decide) (by decide) (by decide)
  obtain ⟨rfl, N52, hh52⟩ := hQ52
  have M52 := Fr.app M51 N52
  refine Go.via st52 ?_
  show Go p e below _ (T52.setTop (mkF m 13 #[.val (.ref a1), .val (.int (1 : Int32)), .val (.ref a2), .val (.int (1 : Int32))] [.int (3 : Int32), .ref a2, .double x3]))
  refine s_daload X52 hx hZ hh52 A2 (hb hby d6_13) (j := (3 : Int32)) 3 (by decide) (.double y3) rfl 14 rfl ?_
  have Dd53 := Db.mul HX3 HY3 (by decide)
  obtain ⟨d53, h_d53⟩ : ∃ v, FP.dmul x3 y3 = v := ⟨_, rfl⟩
  rw [h_d53] at Dd53
  refine s_dmul X52 hx (hb hby d6_14) d53 h_d53 Dd53.nn 15 rfl ?_
  refine s_aloadN X52 hx (hb hby d6_15) rfl rfl 16 rfl ?_
  refine s_iloadN X52 hx (hb hby d6_16) rfl 17 rfl ?_
  refine s_iconst X52 hx (hb hby d6_17) (1 : Int32) rfl 18 rfl ?_
  obtain ⟨v54, T54, L54, X54, hQ54, st54⟩ := callStat X52 hx hZ hown (wd hw 28 _ rfl) (wd hw 29 _ rfl) (wd hw 10 _ rfl) (wd hw 30 _ rfl) (by decide) (rm_at l Z a0 hw [] (1 : Int32) (1 : Int32) (4 : Int32) h0 n0 Z0 (by decide)) hh52 (L := #[.val (.ref a1), .val (.int (1 : Int32)), .val (.ref a2), .val (.int (1 : Int32))]) (hb hby d6_18) (by rw [hml]; rfl) [.int (1 : Int32), .int (1 : Int32)] [.ref a1, .double d53] rfl rfl pd_5 rfl 3 (by show 2 * 0 + _ ≤ _; exact Nat.le_of_eq rfl) (by decide) (by decide) (by decide) (by decide)
  obtain ⟨rfl, N54, hh54⟩ := hQ54
  have M54 := Fr.app M52 N54
  refine Go.via st54 ?_
  show Go p e below _ (T54.setTop (mkF m 21 #[.val (.ref a1), .val (.int (1 : Int32)), .val (.ref a2), .val (.int (1 : Int32))] [.int (4 : Int32), .ref a1, .double d53]))
  refine s_daload X54 hx hZ hh54 A1 (hb hby d6_21) (j := (4 : Int32)) 4 (by decide) (.double x4) rfl 22 rfl ?_
  refine s_aloadN X54 hx (hb hby d6_22) rfl rfl 23 rfl ?_
  refine s_iloadN X54 hx (hb hby d6_23) rfl 24 rfl ?_
  refine s_iconst X54 hx (hb hby d6_24) (1 : Int32) rfl 25 rfl ?_
  obtain ⟨v55, T55, L55, X55, hQ55, st55⟩ := callStat X54 hx hZ hown (wd hw 28 _ rfl) (wd hw 29 _ rfl) (wd hw 10 _ rfl) (wd hw 30 _ rfl) (by decide) (rm_at l Z a0 hw [] (1 : Int32) (1 : Int32) (4 : Int32) h0 n0 Z0 (by decide)) hh54 (L := #[.val (.ref a1), .val (.int (1 : Int32)), .val (.ref a2), .val (.int (1 : Int32))]) (hb hby d6_25) (by rw [hml]; rfl) [.int (1 : Int32), .int (1 : Int32)] [.ref a2, .double x4, .double d53] rfl rfl pd_5 rfl 5 (by show 2 * 0 + _ ≤ _; exact Nat.le_of_eq rfl) (by decide) (by decide) (by decide) (by decide)
  obtain ⟨rfl, N55, hh55⟩ := hQ55
  have M55 := Fr.app M54 N55
  refine Go.via st55 ?_
  show Go p e below _ (T55.setTop (mkF m 28 #[.val (.ref a1), .val (.int (1 : Int32)), .val (.ref a2), .val (.int (1 : Int32))] [.int (4 : Int32), .ref a2, .double x4, .double d53]))
  refine s_daload X55 hx hZ hh55 A2 (hb hby d6_28) (j := (4 : Int32)) 4 (by decide) (.double y4) rfl 29 rfl ?_
  have Dd56 := Db.mul HX4 HY4 (by decide)
  obtain ⟨d56, h_d56⟩ : ∃ v, FP.dmul x4 y4 = v := ⟨_, rfl⟩
  rw [h_d56] at Dd56
  refine s_dmul X55 hx (hb hby d6_29) d56 h_d56 Dd56.nn 30 rfl ?_
  have Dd57 := Db.add Dd53 Dd56 (by decide)
  obtain ⟨d57, h_d57⟩ : ∃ v, FP.dadd d53 d56 = v := ⟨_, rfl⟩
  rw [h_d57] at Dd57
  refine s_dadd X55 hx (hb hby d6_30) d57 h_d57 Dd57.nn 31 rfl ?_
  refine s_aloadN X55 hx (hb hby d6_31) rfl rfl 32 rfl ?_
  refine s_iloadN X55 hx (hb hby d6_32) rfl 33 rfl ?_
  refine s_iconst X55 hx (hb hby d6_33) (2 : Int32) rfl 34 rfl ?_
  obtain ⟨v58, T58, L58, X58, hQ58, st58⟩ := callStat X55 hx hZ hown (wd hw 28 _ rfl) (wd hw 29 _ rfl) (wd hw 10 _ rfl) (wd hw 30 _ rfl) (by decide) (rm_at l Z a0 hw [] (1 : Int32) (2 : Int32) (5 : Int32) h0 n0 Z0 (by decide)) hh55 (L := #[.val (.ref a1), .val (.int (1 : Int32)), .val (.ref a2), .val (.int (1 : Int32))]) (hb hby d6_34) (by rw [hml]; rfl) [.int (1 : Int32), .int (2 : Int32)] [.ref a1, .double d57] rfl rfl pd_5 rfl 3 (by show 2 * 0 + _ ≤ _; exact Nat.le_of_eq rfl) (by decide) (by decide) (by decide) (by decide)
  obtain ⟨rfl, N58, hh58⟩ := hQ58
  have M58 := Fr.app M55 N58
  refine Go.via st58 ?_
  show Go p e below _ (T58.setTop (mkF m 37 #[.val (.ref a1), .val (.int (1 : Int32)), .val (.ref a2), .val (.int (1 : Int32))] [.int (5 : Int32), .ref a1, .double d57]))
  refine s_daload X58 hx hZ hh58 A1 (hb hby d6_37) (j := (5 : Int32)) 5 (by decide) (.double x5) rfl 38 rfl ?_
  refine s_aloadN X58 hx (hb hby d6_38) rfl rfl 39 rfl ?_
  refine s_iloadN X58 hx (hb hby d6_39) rfl 40 rfl ?_
  refine s_iconst X58 hx (hb hby d6_40) (2 : Int32) rfl 41 rfl ?_
  obtain ⟨v59, T59, L59, X59, hQ59, st59⟩ := callStat X58 hx hZ hown (wd hw 28 _ rfl) (wd hw 29 _ rfl) (wd hw 10 _ rfl) (wd hw 30 _ rfl) (by decide) (rm_at l Z a0 hw [] (1 : Int32) (2 : Int32) (5 : Int32) h0 n0 Z0 (by decide)) hh58 (L := #[.val (.ref a1), .val (.int (1 : Int32)), .val (.ref a2), .val (.int (1 : Int32))]) (hb hby d6_41) (by rw [hml]; rfl) [.int (1 : Int32), .int (2 : Int32)] [.ref a2, .double x5, .double d57] rfl rfl pd_5 rfl 5 (by show 2 * 0 + _ ≤ _; exact Nat.le_of_eq rfl) (by decide) (by decide) (by decide) (by decide)
  obtain ⟨rfl, N59, hh59⟩ := hQ59
  have M59 := Fr.app M58 N59
  refine Go.via st59 ?_
  show Go p e below _ (T59.setTop (mkF m 44 #[.val (.ref a1), .val (.int (1 : Int32)), .val (.ref a2), .val (.int (1 : Int32))] [.int (5 : Int32), .ref a2, .double x5, .double d57]))
  refine s_daload X59 hx hZ hh59 A2 (hb hby d6_44) (j := (5 : Int32)) 5 (by decide) (.double y5) rfl 45 rfl ?_
  have Dd60 := Db.mul HX5 HY5 (by decide)
  obtain ⟨d60, h_d60⟩ : ∃ v, FP.dmul x5 y5 = v := ⟨_, rfl⟩
  rw [h_d60] at Dd60
  refine s_dmul X59 hx (hb hby d6_45) d60 h_d60 Dd60.nn 46 rfl ?_
  have Dd61 := Db.add Dd57 Dd60 (by decide)
  obtain ⟨d61, h_d61⟩ : ∃ v, FP.dadd d57 d60 = v := ⟨_, rfl⟩
  rw [h_d61] at Dd61
  refine s_dadd X59 hx (hb hby d6_46) d61 h_d61 Dd61.nn 47 rfl ?_
  exact retD X59 hx hlk hret (hb hby d6_47) hh59 ⟨_, rfl, Dd61, M59, rfl⟩ (by decide) (by decide)
set_option maxRecDepth 65536 in
set_option maxHeartbeats 40000000 in
theorem rm_dot12 (l : Launch) (Z : State) (a0 : Array Value) (hw : ∀ d ∈ tables_1, d.before a0 Z = true) (ws : List Jvm.Cond) (a1 a2 : Addr) (k1 k2 : ClassId) (x0 x1 x2 x3 x4 x5 x6 x7 x8 y0 y1 y2 y3 y4 y5 y6 y7 y8 : UInt64) (U0 U1 U2 U3 U4 U5 U6 U7 U8 W0 W1 W2 W3 W4 W5 W6 W7 W8 : Int) (h0 : Heap) (n0 : Nat) (Z0 : n0 ≤ h0.size) (A1 : AR Z h0 a1 k1 .double [.double x0, .double x1, .double x2, .double x3, .double x4, .double x5, .double x6, .double x7, .double x8]) (A2 : AR Z h0 a2 k2 .double [.double y0, .double y1, .double y2, .double y3, .double y4, .double y5, .double y6, .double y7, .double y8]) (HX0 : Db 3145728 U0 0 x0) (HX1 : Db 3145728 U1 0 x1) (HX2 : Db 3145728 U2 0 x2) (HX3 : Db 3145728 U3 0 x3) (HX4 : Db 3145728 U4 0 x4) (HX5 : Db 3145728 U5 0 x5) (HX6 : Db 3145728 U6 0 x6) (HX7 : Db 3145728 U7 0 x7) (HX8 : Db 3145728 U8 0 x8) (HY0 : Db 3145728 W0 0 y0) (HY1 : Db 3145728 W1 0 y1) (HY2 : Db 3145728 W2 0 y2) (HY3 : Db 3145728 W3 0 y3) (HY4 : Db 3145728 W4 0 y4) (HY5 : Db 3145728 W5 0 y5) (HY6 : Db 3145728 W6 0 y6) (HY7 : Db 3145728 W7 0 y7) (HY8 : Db 3145728 W8 0 y8) :
    Ct l Z (⟨"com/example/twelvefold/twelvefold/FrameTransformMatrix", "rowDot", "([DI[DI)D"⟩ : MethodName) prog_6_method_13_code 4 (some .double) ws ({ frames := 1, cells := 0, slots := 0, locals := 18 } : Room) #[.ref a1, .int (1 : Int32), .ref a2, .int (2 : Int32)] h0 (fun v h L => ∃ d, v = some (.double d) ∧ Db (3145728 * 3145728 + 3145728 * 3145728 + 3145728 * 3145728) (U3 * W6 + U4 * W7 + U5 * W8) 0 d ∧ Fr n0 L ∧ h = h0) := by
  refine Ct.intro pn_6 #[.val (.ref a1), .val (.int (1 : Int32)), .val (.ref a2), .val (.int (2 : Int32))] (fun _ => by first | (simp [entryFrame, mkF, argsToLocals, Value.category, maxLocals]; done) | rfl) ?_
  intro p e s m below meth c T0 X0 hx hZ hby hml hown hnm hret hlk e0
  have N0 := Fr.nil n0
  refine s_aloadN X0 hx (hb hby d6_0) rfl rfl 1 rfl ?_
  refine s_iloadN X0 hx (hb hby d6_1) rfl 2 rfl ?_
  refine s_iconst X0 hx (hb hby d6_2) (0 : Int32) rfl 3 rfl ?_
  obtain ⟨v62, T62, L62, X62, hQ62, st62⟩ := callStat X0 hx hZ hown (wd hw 28 _ rfl) (wd hw 29 _ rfl) (wd hw 10 _ rfl) (wd hw 30 _ rfl) (by decide) (rm_at l Z a0 hw [] (1 : Int32) (0 : Int32) (3 : Int32) h0 n0 Z0 (by decide)) e0 (L := #[.val (.ref a1), .val (.int (1 : Int32)), .val (.ref a2), .val (.int (2 : Int32))]) (hb hby d6_3) (by rw [hml]; rfl) [.int (1 : Int32), .int (0 : Int32)] [.ref a1] rfl rfl pd_5 rfl 1 (by show 2 * 0 + _ ≤ _; exact Nat.le_of_eq rfl) (by decide) (by decide) (by decide) (by decide)
  obtain ⟨rfl, N62, hh62⟩ := hQ62
  have M62 := Fr.app N0 N62
  refine Go.via st62 ?_
  show Go p e below _ (T62.setTop (mkF m 6 #[.val (.ref a1), .val (.int (1 : Int32)), .val (.ref a2), .val (.int (2 : Int32))] [.int (3 : Int32), .ref a1]))
  refine s_daload X62 hx hZ hh62 A1 (hb hby d6_6) (j := (3 : Int32)) 3 (by decide) (.double x3) rfl 7 rfl ?_
  refine s_aloadN X62 hx (hb hby d6_7) rfl rfl 8 rfl ?_
  refine s_iloadN X62 hx (hb hby d6_8) rfl 9 rfl ?_
  refine s_iconst X62 hx (hb hby d6_9) (0 : Int32) rfl 10 rfl ?_
  obtain ⟨v63, T63, L63, X63, hQ63, st63⟩ := callStat X62 hx hZ hown (wd hw 28 _ rfl) (wd hw 29 _ rfl) (wd hw 10 _ rfl) (wd hw 30 _ rfl) (by decide) (rm_at l Z a0 hw [] (2 : Int32) (0 : Int32) (6 : Int32) h0 n0 Z0 (by decide)) hh62 (L := #[.val (.ref a1), .val (.int (1 : Int32)), .val (.ref a2), .val (.int (2 : Int32))]) (hb hby d6_10) (by rw [hml]; rfl) [.int (2 : Int32), .int (0 : Int32)] [.ref a2, .double x3] rfl rfl pd_5 rfl 3 (by show 2 * 0 + _ ≤ _; exact Nat.le_of_eq rfl) (by decide) (by decide) (by decide) (by decide)
  obtain ⟨rfl, N63, hh63⟩ := hQ63
  have M63 := Fr.app M62 N63
  refine Go.via st63 ?_
  show Go p e below _ (T63.setTop (mkF m 13 #[.val (.ref a1), .val (.int (1 : Int32)), .val (.ref a2), .val (.int (2 : Int32))] [.int (6 : Int32), .ref a2, .double x3]))
  refine s_daload X63 hx hZ hh63 A2 (hb hby d6_13) (j := (6 : Int32)) 6 (by decide) (.double y6) rfl 14 rfl ?_
  have Dd64 := Db.mul HX3 HY6 (by decide)
  obtain ⟨d64, h_d64⟩ : ∃ v, FP.dmul x3 y6 = v := ⟨_, rfl⟩
  rw [h_d64] at Dd64
  refine s_dmul X63 hx (hb hby d6_14) d64 h_d64 Dd64.nn 15 rfl ?_
  refine s_aloadN X63 hx (hb hby d6_15) rfl rfl 16 rfl ?_
  refine s_iloadN X63 hx (hb hby d6_16) rfl 17 rfl ?_
  refine s_iconst X63 hx (hb hby d6_17) (1 : Int32) rfl 18 rfl ?_
  obtain ⟨v65, T65, L65, X65, hQ65, st65⟩ := callStat X63 hx hZ hown (wd hw 28 _ rfl) (wd hw 29 _ rfl) (wd hw 10 _ rfl) (wd hw 30 _ rfl) (by decide) (rm_at l Z a0 hw [] (1 : Int32) (1 : Int32) (4 : Int32) h0 n0 Z0 (by decide)) hh63 (L := #[.val (.ref a1), .val (.int (1 : Int32)), .val (.ref a2), .val (.int (2 : Int32))]) (hb hby d6_18) (by rw [hml]; rfl) [.int (1 : Int32), .int (1 : Int32)] [.ref a1, .double d64] rfl rfl pd_5 rfl 3 (by show 2 * 0 + _ ≤ _; exact Nat.le_of_eq rfl) (by decide) (by decide) (by decide) (by decide)
  obtain ⟨rfl, N65, hh65⟩ := hQ65
  have M65 := Fr.app M63 N65
  refine Go.via st65 ?_
  show Go p e below _ (T65.setTop (mkF m 21 #[.val (.ref a1), .val (.int (1 : Int32)), .val (.ref a2), .val (.int (2 : Int32))] [.int (4 : Int32), .ref a1, .double d64]))
  refine s_daload X65 hx hZ hh65 A1 (hb hby d6_21) (j := (4 : Int32)) 4 (by decide) (.double x4) rfl 22 rfl ?_
  refine s_aloadN X65 hx (hb hby d6_22) rfl rfl 23 rfl ?_
  refine s_iloadN X65 hx (hb hby d6_23) rfl 24 rfl ?_
  refine s_iconst X65 hx (hb hby d6_24) (1 : Int32) rfl 25 rfl ?_
  obtain ⟨v66, T66, L66, X66, hQ66, st66⟩ := callStat X65 hx hZ hown (wd hw 28 _ rfl) (wd hw 29 _ rfl) (wd hw 10 _ rfl) (wd hw 30 _ rfl) (by decide) (rm_at l Z a0 hw [] (2 : Int32) (1 : Int32) (7 : Int32) h0 n0 Z0 (by decide)) hh65 (L := #[.val (.ref a1), .val (.int (1 : Int32)), .val (.ref a2), .val (.int (2 : Int32))]) (hb hby d6_25) (by rw [hml]; rfl) [.int (2 : Int32), .int (1 : Int32)] [.ref a2, .double x4, .double d64] rfl rfl pd_5 rfl 5 (by show 2 * 0 + _ ≤ _; exact Nat.le_of_eq rfl) (by decide) (by decide) (by decide) (by decide)
  obtain ⟨rfl, N66, hh66⟩ := hQ66
  have M66 := Fr.app M65 N66
  refine Go.via st66 ?_
  show Go p e below _ (T66.setTop (mkF m 28 #[.val (.ref a1), .val (.int (1 : Int32)), .val (.ref a2), .val (.int (2 : Int32))] [.int (7 : Int32), .ref a2, .double x4, .double d64]))
  refine s_daload X66 hx hZ hh66 A2 (hb hby d6_28) (j := (7 : Int32)) 7 (by decide) (.double y7) rfl 29 rfl ?_
  have Dd67 := Db.mul HX4 HY7 (by decide)
  obtain ⟨d67, h_d67⟩ : ∃ v, FP.dmul x4 y7 = v := ⟨_, rfl⟩
  rw [h_d67] at Dd67
  refine s_dmul X66 hx (hb hby d6_29) d67 h_d67 Dd67.nn 30 rfl ?_
  have Dd68 := Db.add Dd64 Dd67 (by decide)
  obtain ⟨d68, h_d68⟩ : ∃ v, FP.dadd d64 d67 = v := ⟨_, rfl⟩
  rw [h_d68] at Dd68
  refine s_dadd X66 hx (hb hby d6_30) d68 h_d68 Dd68.nn 31 rfl ?_
  refine s_aloadN X66 hx (hb hby d6_31) rfl rfl 32 rfl ?_
  refine s_iloadN X66 hx (hb hby d6_32) rfl 33 rfl ?_
  refine s_iconst X66 hx (hb hby d6_33) (2 : Int32) rfl 34 rfl ?_
  obtain ⟨v69, T69, L69, X69, hQ69, st69⟩ := callStat X66 hx hZ hown (wd hw 28 _ rfl) (wd hw 29 _ rfl) (wd hw 10 _ rfl) (wd hw 30 _ rfl) (by decide) (rm_at l Z a0 hw [] (1 : Int32) (2 : Int32) (5 : Int32) h0 n0 Z0 (by decide)) hh66 (L := #[.val (.ref a1), .val (.int (1 : Int32)), .val (.ref a2), .val (.int (2 : Int32))]) (hb hby d6_34) (by rw [hml]; rfl) [.int (1 : Int32), .int (2 : Int32)] [.ref a1, .double d68] rfl rfl pd_5 rfl 3 (by show 2 * 0 + _ ≤ _; exact Nat.le_of_eq rfl) (by decide) (by decide) (by decide) (by decide)
  obtain ⟨rfl, N69, hh69⟩ := hQ69
  have M69 := Fr.app M66 N69
  refine Go.via st69 ?_
  show Go p e below _ (T69.setTop (mkF m 37 #[.val (.ref a1), .val (.int (1 : Int32)), .val (.ref a2), .val (.int (2 : Int32))] [.int (5 : Int32), .ref a1, .double d68]))
  refine s_daload X69 hx hZ hh69 A1 (hb hby d6_37) (j := (5 : Int32)) 5 (by decide) (.double x5) rfl 38 rfl ?_
  refine s_aloadN X69 hx (hb hby d6_38) rfl rfl 39 rfl ?_
  refine s_iloadN X69 hx (hb hby d6_39) rfl 40 rfl ?_
  refine s_iconst X69 hx (hb hby d6_40) (2 : Int32) rfl 41 rfl ?_
  obtain ⟨v70, T70, L70, X70, hQ70, st70⟩ := callStat X69 hx hZ hown (wd hw 28 _ rfl) (wd hw 29 _ rfl) (wd hw 10 _ rfl) (wd hw 30 _ rfl) (by decide) (rm_at l Z a0 hw [] (2 : Int32) (2 : Int32) (8 : Int32) h0 n0 Z0 (by decide)) hh69 (L := #[.val (.ref a1), .val (.int (1 : Int32)), .val (.ref a2), .val (.int (2 : Int32))]) (hb hby d6_41) (by rw [hml]; rfl) [.int (2 : Int32), .int (2 : Int32)] [.ref a2, .double x5, .double d68] rfl rfl pd_5 rfl 5 (by show 2 * 0 + _ ≤ _; exact Nat.le_of_eq rfl) (by decide) (by decide) (by decide) (by decide)
  obtain ⟨rfl, N70, hh70⟩ := hQ70
  have M70 := Fr.app M69 N70
  refine Go.via st70 ?_
  show Go p e below _ (T70.setTop (mkF m 44 #[.val (.ref a1), .val (.int (1 : Int32)), .val (.ref a2), .val (.int (2 : Int32))] [.int (8 : Int32), .ref a2, .double x5, .double d68]))
  refine s_daload X70 hx hZ hh70 A2 (hb hby d6_44) (j := (8 : Int32)) 8 (by decide) (.double y8) rfl 45 rfl ?_
  have Dd71 := Db.mul HX5 HY8 (by decide)
  obtain ⟨d71, h_d71⟩ : ∃ v, FP.dmul x5 y8 = v := ⟨_, rfl⟩
  rw [h_d71] at Dd71
  refine s_dmul X70 hx (hb hby d6_45) d71 h_d71 Dd71.nn 46 rfl ?_
  have Dd72 := Db.add Dd68 Dd71 (by decide)
  obtain ⟨d72, h_d72⟩ : ∃ v, FP.dadd d68 d71 = v := ⟨_, rfl⟩
  rw [h_d72] at Dd72
  refine s_dadd X70 hx (hb hby d6_46) d72 h_d72 Dd72.nn 47 rfl ?_
  exact retD X70 hx hlk hret (hb hby d6_47) hh70 ⟨_, rfl, Dd72, M70, rfl⟩ (by decide) (by decide)
set_option maxRecDepth 65536 in
set_option maxHeartbeats 40000000 in
theorem rm_dot20 (l : Launch) (Z : State) (a0 : Array Value) (hw : ∀ d ∈ tables_1, d.before a0 Z = true) (ws : List Jvm.Cond) (a1 a2 : Addr) (k1 k2 : ClassId) (x0 x1 x2 x3 x4 x5 x6 x7 x8 y0 y1 y2 y3 y4 y5 y6 y7 y8 : UInt64) (U0 U1 U2 U3 U4 U5 U6 U7 U8 W0 W1 W2 W3 W4 W5 W6 W7 W8 : Int) (h0 : Heap) (n0 : Nat) (Z0 : n0 ≤ h0.size) (A1 : AR Z h0 a1 k1 .double [.double x0, .double x1, .double x2, .double x3, .double x4, .double x5, .double x6, .double x7, .double x8]) (A2 : AR Z h0 a2 k2 .double [.double y0, .double y1, .double y2, .double y3, .double y4, .double y5, .double y6, .double y7, .double y8]) (HX0 : Db 3145728 U0 0 x0) (HX1 : Db 3145728 U1 0 x1) (HX2 : Db 3145728 U2 0 x2) (HX3 : Db 3145728 U3 0 x3) (HX4 : Db 3145728 U4 0 x4) (HX5 : Db 3145728 U5 0 x5) (HX6 : Db 3145728 U6 0 x6) (HX7 : Db 3145728 U7 0 x7) (HX8 : Db 3145728 U8 0 x8) (HY0 : Db 3145728 W0 0 y0) (HY1 : Db 3145728 W1 0 y1) (HY2 : Db 3145728 W2 0 y2) (HY3 : Db 3145728 W3 0 y3) (HY4 : Db 3145728 W4 0 y4) (HY5 : Db 3145728 W5 0 y5) (HY6 : Db 3145728 W6 0 y6) (HY7 : Db 3145728 W7 0 y7) (HY8 : Db 3145728 W8 0 y8) :
    Ct l Z (⟨"com/example/twelvefold/twelvefold/FrameTransformMatrix", "rowDot", "([DI[DI)D"⟩ : MethodName) prog_6_method_13_code 4 (some .double) ws ({ frames := 1, cells := 0, slots := 0, locals := 18 } : Room) #[.ref a1, .int (2 : Int32), .ref a2, .int (0 : Int32)] h0 (fun v h L => ∃ d, v = some (.double d) ∧ Db (3145728 * 3145728 + 3145728 * 3145728 + 3145728 * 3145728) (U6 * W0 + U7 * W1 + U8 * W2) 0 d ∧ Fr n0 L ∧ h = h0) := by
  refine Ct.intro pn_6 #[.val (.ref a1), .val (.int (2 : Int32)), .val (.ref a2), .val (.int (0 : Int32))] (fun _ => by first | (simp [entryFrame, mkF, argsToLocals, Value.category, maxLocals]; done) | rfl) ?_
  intro p e s m below meth c T0 X0 hx hZ hby hml hown hnm hret hlk e0
  have N0 := Fr.nil n0
  refine s_aloadN X0 hx (hb hby d6_0) rfl rfl 1 rfl ?_
  refine s_iloadN X0 hx (hb hby d6_1) rfl 2 rfl ?_
  refine s_iconst X0 hx (hb hby d6_2) (0 : Int32) rfl 3 rfl ?_
  obtain ⟨v73, T73, L73, X73, hQ73, st73⟩ := callStat X0 hx hZ hown (wd hw 28 _ rfl) (wd hw 29 _ rfl) (wd hw 10 _ rfl) (wd hw 30 _ rfl) (by decide) (rm_at l Z a0 hw [] (2 : Int32) (0 : Int32) (6 : Int32) h0 n0 Z0 (by decide)) e0 (L := #[.val (.ref a1), .val (.int (2 : Int32)), .val (.ref a2), .val (.int (0 : Int32))]) (hb hby d6_3) (by rw [hml]; rfl) [.int (2 : Int32), .int (0 : Int32)] [.ref a1] rfl rfl pd_5 rfl 1 (by show 2 * 0 + _ ≤ _; exact Nat.le_of_eq rfl) (by decide) (by decide) (by decide) (by decide)
  obtain ⟨rfl, N73, hh73⟩ := hQ73
  have M73 := Fr.app N0 N73
  refine Go.via st73 ?_
  show Go p e below _ (T73.setTop (mkF m 6 #[.val (.ref a1), .val (.int (2 : Int32)), .val (.ref a2), .val (.int (0 : Int32))] [.int (6 : Int32), .ref a1]))
  refine s_daload X73 hx hZ hh73 A1 (hb hby d6_6) (j := (6 : Int32)) 6 (by decide) (.double x6) rfl 7 rfl ?_
  refine s_aloadN X73 hx (hb hby d6_7) rfl rfl 8 rfl ?_
  refine s_iloadN X73 hx (hb hby d6_8) rfl 9 rfl ?_
  refine s_iconst X73 hx (hb hby d6_9) (0 : Int32) rfl 10 rfl ?_
  obtain ⟨v74, T74, L74, X74, hQ74, st74⟩ := callStat X73 hx hZ hown (wd hw 28 _ rfl) (wd hw 29 _ rfl) (wd hw 10 _ rfl) (wd hw 30 _ rfl) (by decide) (rm_at l Z a0 hw [] (0 : Int32) (0 : Int32) (0 : Int32) h0 n0 Z0 (by decide)) hh73 (L := #[.val (.ref a1), .val (.int (2 : Int32)), .val (.ref a2), .val (.int (0 : Int32))]) (hb hby d6_10) (by rw [hml]; rfl) [.int (0 : Int32), .int (0 : Int32)] [.ref a2, .double x6] rfl rfl pd_5 rfl 3 (by show 2 * 0 + _ ≤ _; exact Nat.le_of_eq rfl) (by decide) (by decide) (by decide) (by decide)
  obtain ⟨rfl, N74, hh74⟩ := hQ74
  have M74 := Fr.app M73 N74
  refine Go.via st74 ?_
  show Go p e below _ (T74.setTop (mkF m 13 #[.val (.ref a1), .val (.int (2 : Int32)), .val (.ref a2), .val (.int (0 : Int32))] [.int (0 : Int32), .ref a2, .double x6]))
  refine s_daload X74 hx hZ hh74 A2 (hb hby d6_13) (j := (0 : Int32)) 0 (by decide) (.double y0) rfl 14 rfl ?_
  have Dd75 := Db.mul HX6 HY0 (by decide)
  obtain ⟨d75, h_d75⟩ : ∃ v, FP.dmul x6 y0 = v := ⟨_, rfl⟩
  rw [h_d75] at Dd75
  refine s_dmul X74 hx (hb hby d6_14) d75 h_d75 Dd75.nn 15 rfl ?_
  refine s_aloadN X74 hx (hb hby d6_15) rfl rfl 16 rfl ?_
  refine s_iloadN X74 hx (hb hby d6_16) rfl 17 rfl ?_
  refine s_iconst X74 hx (hb hby d6_17) (1 : Int32) rfl 18 rfl ?_
  obtain ⟨v76, T76, L76, X76, hQ76, st76⟩ := callStat X74 hx hZ hown (wd hw 28 _ rfl) (wd hw 29 _ rfl) (wd hw 10 _ rfl) (wd hw 30 _ rfl) (by decide) (rm_at l Z a0 hw [] (2 : Int32) (1 : Int32) (7 : Int32) h0 n0 Z0 (by decide)) hh74 (L := #[.val (.ref a1), .val (.int (2 : Int32)), .val (.ref a2), .val (.int (0 : Int32))]) (hb hby d6_18) (by rw [hml]; rfl) [.int (2 : Int32), .int (1 : Int32)] [.ref a1, .double d75] rfl rfl pd_5 rfl 3 (by show 2 * 0 + _ ≤ _; exact Nat.le_of_eq rfl) (by decide) (by decide) (by decide) (by decide)
  obtain ⟨rfl, N76, hh76⟩ := hQ76
  have M76 := Fr.app M74 N76
  refine Go.via st76 ?_
  show Go p e below _ (T76.setTop (mkF m 21 #[.val (.ref a1), .val (.int (2 : Int32)), .val (.ref a2), .val (.int (0 : Int32))] [.int (7 : Int32), .ref a1, .double d75]))
  refine s_daload X76 hx hZ hh76 A1 (hb hby d6_21) (j := (7 : Int32)) 7 (by decide) (.double x7) rfl 22 rfl ?_
  refine s_aloadN X76 hx (hb hby d6_22) rfl rfl 23 rfl ?_
  refine s_iloadN X76 hx (hb hby d6_23) rfl 24 rfl ?_
  refine s_iconst X76 hx (hb hby d6_24) (1 : Int32) rfl 25 rfl ?_
  obtain ⟨v77, T77, L77, X77, hQ77, st77⟩ := callStat X76 hx hZ hown (wd hw 28 _ rfl) (wd hw 29 _ rfl) (wd hw 10 _ rfl) (wd hw 30 _ rfl) (by decide) (rm_at l Z a0 hw [] (0 : Int32) (1 : Int32) (1 : Int32) h0 n0 Z0 (by decide)) hh76 (L := #[.val (.ref a1), .val (.int (2 : Int32)), .val (.ref a2), .val (.int (0 : Int32))]) (hb hby d6_25) (by rw [hml]; rfl) [.int (0 : Int32), .int (1 : Int32)] [.ref a2, .double x7, .double d75] rfl rfl pd_5 rfl 5 (by show 2 * 0 + _ ≤ _; exact Nat.le_of_eq rfl) (by decide) (by decide) (by decide) (by decide)
  obtain ⟨rfl, N77, hh77⟩ := hQ77
  have M77 := Fr.app M76 N77
  refine Go.via st77 ?_
  show Go p e below _ (T77.setTop (mkF m 28 #[.val (.ref a1), .val (.int (2 : Int32)), .val (.ref a2), .val (.int (0 : Int32))] [.int (1 : Int32), .ref a2, .double x7, .double d75]))
  refine s_daload X77 hx hZ hh77 A2 (hb hby d6_28) (j := (1 : Int32)) 1 (by decide) (.double y1) rfl 29 rfl ?_
  have Dd78 := Db.mul HX7 HY1 (by decide)
  obtain ⟨d78, h_d78⟩ : ∃ v, FP.dmul x7 y1 = v := ⟨_, rfl⟩
  rw [h_d78] at Dd78
  refine s_dmul X77 hx (hb hby d6_29) d78 h_d78 Dd78.nn 30 rfl ?_
  have Dd79 := Db.add Dd75 Dd78 (by decide)
  obtain ⟨d79, h_d79⟩ : ∃ v, FP.dadd d75 d78 = v := ⟨_, rfl⟩
  rw [h_d79] at Dd79
  refine s_dadd X77 hx (hb hby d6_30) d79 h_d79 Dd79.nn 31 rfl ?_
  refine s_aloadN X77 hx (hb hby d6_31) rfl rfl 32 rfl ?_
  refine s_iloadN X77 hx (hb hby d6_32) rfl 33 rfl ?_
  refine s_iconst X77 hx (hb hby d6_33) (2 : Int32) rfl 34 rfl ?_
  obtain ⟨v80, T80, L80, X80, hQ80, st80⟩ := callStat X77 hx hZ hown (wd hw 28 _ rfl) (wd hw 29 _ rfl) (wd hw 10 _ rfl) (wd hw 30 _ rfl) (by decide) (rm_at l Z a0 hw [] (2 : Int32) (2 : Int32) (8 : Int32) h0 n0 Z0 (by decide)) hh77 (L := #[.val (.ref a1), .val (.int (2 : Int32)), .val (.ref a2), .val (.int (0 : Int32))]) (hb hby d6_34) (by rw [hml]; rfl) [.int (2 : Int32), .int (2 : Int32)] [.ref a1, .double d79] rfl rfl pd_5 rfl 3 (by show 2 * 0 + _ ≤ _; exact Nat.le_of_eq rfl) (by decide) (by decide) (by decide) (by decide)
  obtain ⟨rfl, N80, hh80⟩ := hQ80
  have M80 := Fr.app M77 N80
  refine Go.via st80 ?_
  show Go p e below _ (T80.setTop (mkF m 37 #[.val (.ref a1), .val (.int (2 : Int32)), .val (.ref a2), .val (.int (0 : Int32))] [.int (8 : Int32), .ref a1, .double d79]))
  refine s_daload X80 hx hZ hh80 A1 (hb hby d6_37) (j := (8 : Int32)) 8 (by decide) (.double x8) rfl 38 rfl ?_
  refine s_aloadN X80 hx (hb hby d6_38) rfl rfl 39 rfl ?_
  refine s_iloadN X80 hx (hb hby d6_39) rfl 40 rfl ?_
  refine s_iconst X80 hx (hb hby d6_40) (2 : Int32) rfl 41 rfl ?_
  obtain ⟨v81, T81, L81, X81, hQ81, st81⟩ := callStat X80 hx hZ hown (wd hw 28 _ rfl) (wd hw 29 _ rfl) (wd hw 10 _ rfl) (wd hw 30 _ rfl) (by decide) (rm_at l Z a0 hw [] (0 : Int32) (2 : Int32) (2 : Int32) h0 n0 Z0 (by decide)) hh80 (L := #[.val (.ref a1), .val (.int (2 : Int32)), .val (.ref a2), .val (.int (0 : Int32))]) (hb hby d6_41) (by rw [hml]; rfl) [.int (0 : Int32), .int (2 : Int32)] [.ref a2, .double x8, .double d79] rfl rfl pd_5 rfl 5 (by show 2 * 0 + _ ≤ _; exact Nat.le_of_eq rfl) (by decide) (by decide) (by decide) (by decide)
  obtain ⟨rfl, N81, hh81⟩ := hQ81
  have M81 := Fr.app M80 N81
  refine Go.via st81 ?_
  show Go p e below _ (T81.setTop (mkF m 44 #[.val (.ref a1), .val (.int (2 : Int32)), .val (.ref a2), .val (.int (0 : Int32))] [.int (2 : Int32), .ref a2, .double x8, .double d79]))
  refine s_daload X81 hx hZ hh81 A2 (hb hby d6_44) (j := (2 : Int32)) 2 (by decide) (.double y2) rfl 45 rfl ?_
  have Dd82 := Db.mul HX8 HY2 (by decide)
  obtain ⟨d82, h_d82⟩ : ∃ v, FP.dmul x8 y2 = v := ⟨_, rfl⟩
  rw [h_d82] at Dd82
  refine s_dmul X81 hx (hb hby d6_45) d82 h_d82 Dd82.nn 46 rfl ?_
  have Dd83 := Db.add Dd79 Dd82 (by decide)
  obtain ⟨d83, h_d83⟩ : ∃ v, FP.dadd d79 d82 = v := ⟨_, rfl⟩
  rw [h_d83] at Dd83
  refine s_dadd X81 hx (hb hby d6_46) d83 h_d83 Dd83.nn 47 rfl ?_
  exact retD X81 hx hlk hret (hb hby d6_47) hh81 ⟨_, rfl, Dd83, M81, rfl⟩ (by decide) (by decide)
set_option maxRecDepth 65536 in
set_option maxHeartbeats 40000000 in
theorem rm_dot21 (l : Launch) (Z : State) (a0 : Array Value) (hw : ∀ d ∈ tables_1, d.before a0 Z = true) (ws : List Jvm.Cond) (a1 a2 : Addr) (k1 k2 : ClassId) (x0 x1 x2 x3 x4 x5 x6 x7 x8 y0 y1 y2 y3 y4 y5 y6 y7 y8 : UInt64) (U0 U1 U2 U3 U4 U5 U6 U7 U8 W0 W1 W2 W3 W4 W5 W6 W7 W8 : Int) (h0 : Heap) (n0 : Nat) (Z0 : n0 ≤ h0.size) (A1 : AR Z h0 a1 k1 .double [.double x0, .double x1, .double x2, .double x3, .double x4, .double x5, .double x6, .double x7, .double x8]) (A2 : AR Z h0 a2 k2 .double [.double y0, .double y1, .double y2, .double y3, .double y4, .double y5, .double y6, .double y7, .double y8]) (HX0 : Db 3145728 U0 0 x0) (HX1 : Db 3145728 U1 0 x1) (HX2 : Db 3145728 U2 0 x2) (HX3 : Db 3145728 U3 0 x3) (HX4 : Db 3145728 U4 0 x4) (HX5 : Db 3145728 U5 0 x5) (HX6 : Db 3145728 U6 0 x6) (HX7 : Db 3145728 U7 0 x7) (HX8 : Db 3145728 U8 0 x8) (HY0 : Db 3145728 W0 0 y0) (HY1 : Db 3145728 W1 0 y1) (HY2 : Db 3145728 W2 0 y2) (HY3 : Db 3145728 W3 0 y3) (HY4 : Db 3145728 W4 0 y4) (HY5 : Db 3145728 W5 0 y5) (HY6 : Db 3145728 W6 0 y6) (HY7 : Db 3145728 W7 0 y7) (HY8 : Db 3145728 W8 0 y8) :
    Ct l Z (⟨"com/example/twelvefold/twelvefold/FrameTransformMatrix", "rowDot", "([DI[DI)D"⟩ : MethodName) prog_6_method_13_code 4 (some .double) ws ({ frames := 1, cells := 0, slots := 0, locals := 18 } : Room) #[.ref a1, .int (2 : Int32), .ref a2, .int (1 : Int32)] h0 (fun v h L => ∃ d, v = some (.double d) ∧ Db (3145728 * 3145728 + 3145728 * 3145728 + 3145728 * 3145728) (U6 * W3 + U7 * W4 + U8 * W5) 0 d ∧ Fr n0 L ∧ h = h0) := by
  refine Ct.intro pn_6 #[.val (.ref a1), .val (.int (2 : Int32)), .val (.ref a2), .val (.int (1 : Int32))] (fun _ => by first | (simp [entryFrame, mkF, argsToLocals, Value.category, maxLocals]; done) | rfl) ?_
  intro p e s m below meth c T0 X0 hx hZ hby hml hown hnm hret hlk e0
  have N0 := Fr.nil n0
  refine s_aloadN X0 hx (hb hby d6_0) rfl rfl 1 rfl ?_
  refine s_iloadN X0 hx (hb hby d6_1) rfl 2 rfl ?_
  refine s_iconst X0 hx (hb hby d6_2) (0 : Int32) rfl 3 rfl ?_
  obtain ⟨v84, T84, L84, X84, hQ84, st84⟩ := callStat X0 hx hZ hown (wd hw 28 _ rfl) (wd hw 29 _ rfl) (wd hw 10 _ rfl) (wd hw 30 _ rfl) (by decide) (rm_at l Z a0 hw [] (2 : Int32) (0 : Int32) (6 : Int32) h0 n0 Z0 (by decide)) e0 (L := #[.val (.ref a1), .val (.int (2 : Int32)), .val (.ref a2), .val (.int (1 : Int32))]) (hb hby d6_3) (by rw [hml]; rfl) [.int (2 : Int32), .int (0 : Int32)] [.ref a1] rfl rfl pd_5 rfl 1 (by show 2 * 0 + _ ≤ _; exact Nat.le_of_eq rfl) (by decide) (by decide) (by decide) (by decide)
  obtain ⟨rfl, N84, hh84⟩ := hQ84
  have M84 := Fr.app N0 N84
  refine Go.via st84 ?_
  show Go p e below _ (T84.setTop (mkF m 6 #[.val (.ref a1), .val (.int (2 : Int32)), .val (.ref a2), .val (.int (1 : Int32))] [.int (6 : Int32), .ref a1]))
  refine s_daload X84 hx hZ hh84 A1 (hb hby d6_6) (j := (6 : Int32)) 6 (by decide) (.double x6) rfl 7 rfl ?_
  refine s_aloadN X84 hx (hb hby d6_7) rfl rfl 8 rfl ?_
  refine s_iloadN X84 hx (hb hby d6_8) rfl 9 rfl ?_
  refine s_iconst X84 hx (hb hby d6_9) (0 : Int32) rfl 10 rfl ?_
  obtain ⟨v85, T85, L85, X85, hQ85, st85⟩ := callStat X84 hx hZ hown (wd hw 28 _ rfl) (wd hw 29 _ rfl) (wd hw 10 _ rfl) (wd hw 30 _ rfl) (by decide) (rm_at l Z a0 hw [] (1 : Int32) (0 : Int32) (3 : Int32) h0 n0 Z0 (by decide)) hh84 (L := #[.val (.ref a1), .val (.int (2 : Int32)), .val (.ref a2), .val (.int (1 : Int32))]) (hb hby d6_10) (by rw [hml]; rfl) [.int (1 : Int32), .int (0 : Int32)] [.ref a2, .double x6] rfl rfl pd_5 rfl 3 (by show 2 * 0 + _ ≤ _; exact Nat.le_of_eq rfl) (by decide) (by decide) (by decide) (by decide)
  obtain ⟨rfl, N85, hh85⟩ := hQ85
  have M85 := Fr.app M84 N85
  refine Go.via st85 ?_
  show Go p e below _ (T85.setTop (mkF m 13 #[.val (.ref a1), .val (.int (2 : Int32)), .val (.ref a2), .val (.int (1 : Int32))] [.int (3 : Int32), .ref a2, .double x6]))
  refine s_daload X85 hx hZ hh85 A2 (hb hby d6_13) (j := (3 : Int32)) 3 (by decide) (.double y3) rfl 14 rfl ?_
  have Dd86 := Db.mul HX6 HY3 (by decide)
  obtain ⟨d86, h_d86⟩ : ∃ v, FP.dmul x6 y3 = v := ⟨_, rfl⟩
  rw [h_d86] at Dd86
  refine s_dmul X85 hx (hb hby d6_14) d86 h_d86 Dd86.nn 15 rfl ?_
  refine s_aloadN X85 hx (hb hby d6_15) rfl rfl 16 rfl ?_
  refine s_iloadN X85 hx (hb hby d6_16) rfl 17 rfl ?_
  refine s_iconst X85 hx (hb hby d6_17) (1 : Int32) rfl 18 rfl ?_
  obtain ⟨v87, T87, L87, X87, hQ87, st87⟩ := callStat X85 hx hZ hown (wd hw 28 _ rfl) (wd hw 29 _ rfl) (wd hw 10 _ rfl) (wd hw 30 _ rfl) (by decide) (rm_at l Z a0 hw [] (2 : Int32) (1 : Int32) (7 : Int32) h0 n0 Z0 (by decide)) hh85 (L := #[.val (.ref a1), .val (.int (2 : Int32)), .val (.ref a2), .val (.int (1 : Int32))]) (hb hby d6_18) (by rw [hml]; rfl) [.int (2 : Int32), .int (1 : Int32)] [.ref a1, .double d86] rfl rfl pd_5 rfl 3 (by show 2 * 0 + _ ≤ _; exact Nat.le_of_eq rfl) (by decide) (by decide) (by decide) (by decide)
  obtain ⟨rfl, N87, hh87⟩ := hQ87
  have M87 := Fr.app M85 N87
  refine Go.via st87 ?_
  show Go p e below _ (T87.setTop (mkF m 21 #[.val (.ref a1), .val (.int (2 : Int32)), .val (.ref a2), .val (.int (1 : Int32))] [.int (7 : Int32), .ref a1, .double d86]))
  refine s_daload X87 hx hZ hh87 A1 (hb hby d6_21) (j := (7 : Int32)) 7 (by decide) (.double x7) rfl 22 rfl ?_
  refine s_aloadN X87 hx (hb hby d6_22) rfl rfl 23 rfl ?_
  refine s_iloadN X87 hx (hb hby d6_23) rfl 24 rfl ?_
  refine s_iconst X87 hx (hb hby d6_24) (1 : Int32) rfl 25 rfl ?_
  obtain ⟨v88, T88, L88, X88, hQ88, st88⟩ := callStat X87 hx hZ hown (wd hw 28 _ rfl) (wd hw 29 _ rfl) (wd hw 10 _ rfl) (wd hw 30 _ rfl) (by decide) (rm_at l Z a0 hw [] (1 : Int32) (1 : Int32) (4 : Int32) h0 n0 Z0 (by decide)) hh87 (L := #[.val (.ref a1), .val (.int (2 : Int32)), .val (.ref a2), .val (.int (1 : Int32))]) (hb hby d6_25) (by rw [hml]; rfl) [.int (1 : Int32), .int (1 : Int32)] [.ref a2, .double x7, .double d86] rfl rfl pd_5 rfl 5 (by show 2 * 0 + _ ≤ _; exact Nat.le_of_eq rfl) (by decide) (by decide) (by decide) (by decide)
  obtain ⟨rfl, N88, hh88⟩ := hQ88
  have M88 := Fr.app M87 N88
  refine Go.via st88 ?_
  show Go p e below _ (T88.setTop (mkF m 28 #[.val (.ref a1), .val (.int (2 : Int32)), .val (.ref a2), .val (.int (1 : Int32))] [.int (4 : Int32), .ref a2, .double x7, .double d86]))
  refine s_daload X88 hx hZ hh88 A2 (hb hby d6_28) (j := (4 : Int32)) 4 (by decide) (.double y4) rfl 29 rfl ?_
  have Dd89 := Db.mul HX7 HY4 (by decide)
  obtain ⟨d89, h_d89⟩ : ∃ v, FP.dmul x7 y4 = v := ⟨_, rfl⟩
  rw [h_d89] at Dd89
  refine s_dmul X88 hx (hb hby d6_29) d89 h_d89 Dd89.nn 30 rfl ?_
  have Dd90 := Db.add Dd86 Dd89 (by decide)
  obtain ⟨d90, h_d90⟩ : ∃ v, FP.dadd d86 d89 = v := ⟨_, rfl⟩
  rw [h_d90] at Dd90
  refine s_dadd X88 hx (hb hby d6_30) d90 h_d90 Dd90.nn 31 rfl ?_
  refine s_aloadN X88 hx (hb hby d6_31) rfl rfl 32 rfl ?_
  refine s_iloadN X88 hx (hb hby d6_32) rfl 33 rfl ?_
  refine s_iconst X88 hx (hb hby d6_33) (2 : Int32) rfl 34 rfl ?_
  obtain ⟨v91, T91, L91, X91, hQ91, st91⟩ := callStat X88 hx hZ hown (wd hw 28 _ rfl) (wd hw 29 _ rfl) (wd hw 10 _ rfl) (wd hw 30 _ rfl) (by decide) (rm_at l Z a0 hw [] (2 : Int32) (2 : Int32) (8 : Int32) h0 n0 Z0 (by decide)) hh88 (L := #[.val (.ref a1), .val (.int (2 : Int32)), .val (.ref a2), .val (.int (1 : Int32))]) (hb hby d6_34) (by rw [hml]; rfl) [.int (2 : Int32), .int (2 : Int32)] [.ref a1, .double d90] rfl rfl pd_5 rfl 3 (by show 2 * 0 + _ ≤ _; exact Nat.le_of_eq rfl) (by decide) (by decide) (by decide) (by decide)
  obtain ⟨rfl, N91, hh91⟩ := hQ91
  have M91 := Fr.app M88 N91
  refine Go.via st91 ?_
  show Go p e below _ (T91.setTop (mkF m 37 #[.val (.ref a1), .val (.int (2 : Int32)), .val (.ref a2), .val (.int (1 : Int32))] [.int (8 : Int32), .ref a1, .double d90]))
  refine s_daload X91 hx hZ hh91 A1 (hb hby d6_37) (j := (8 : Int32)) 8 (by decide) (.double x8) rfl 38 rfl ?_
  refine s_aloadN X91 hx (hb hby d6_38) rfl rfl 39 rfl ?_
  refine s_iloadN X91 hx (hb hby d6_39) rfl 40 rfl ?_
  refine s_iconst X91 hx (hb hby d6_40) (2 : Int32) rfl 41 rfl ?_
  obtain ⟨v92, T92, L92, X92, hQ92, st92⟩ := callStat X91 hx hZ hown (wd hw 28 _ rfl) (wd hw 29 _ rfl) (wd hw 10 _ rfl) (wd hw 30 _ rfl) (by decide) (rm_at l Z a0 hw [] (1 : Int32) (2 : Int32) (5 : Int32) h0 n0 Z0 (by decide)) hh91 (L := #[.val (.ref a1), .val (.int (2 : Int32)), .val (.ref a2), .val (.int (1 : Int32))]) (hb hby d6_41) (by rw [hml]; rfl) [.int (1 : Int32), .int (2 : Int32)] [.ref a2, .double x8, .double d90] rfl rfl pd_5 rfl 5 (by show 2 * 0 + _ ≤ _; exact Nat.le_of_eq rfl) (by decide) (by decide) (by decide) (by decide)
  obtain ⟨rfl, N92, hh92⟩ := hQ92
  have M92 := Fr.app M91 N92
  refine Go.via st92 ?_
  show Go p e below _ (T92.setTop (mkF m 44 #[.val (.ref a1), .val (.int (2 : Int32)), .val (.ref a2), .val (.int (1 : Int32))] [.int (5 : Int32), .ref a2, .double x8, .double d90]))
  refine s_daload X92 hx hZ hh92 A2 (hb hby d6_44) (j := (5 : Int32)) 5 (by decide) (.double y5) rfl 45 rfl ?_
  have Dd93 := Db.mul HX8 HY5 (by decide)
  obtain ⟨d93, h_d93⟩ : ∃ v, FP.dmul x8 y5 = v := ⟨_, rfl⟩
  rw [h_d93] at Dd93
  refine s_dmul X92 hx (hb hby d6_45) d93 h_d93 Dd93.nn 46 rfl ?_
  have Dd94 := Db.add Dd90 Dd93 (by decide)
  obtain ⟨d94, h_d94⟩ : ∃ v, FP.dadd d90 d93 = v := ⟨_, rfl⟩
  rw [h_d94] at Dd94
  refine s_dadd X92 hx (hb hby d6_46) d94 h_d94 Dd94.nn 47 rfl ?_
  exact retD X92 hx hlk hret (hb hby d6_47) hh92 ⟨_, rfl, Dd94, M92, rfl⟩ (by decide) (by decide)
set_option maxRecDepth 65536 in
set_option maxHeartbeats 40000000 in
theorem rm_dot22 (l : Launch) (Z : State) (a0 : Array Value) (hw : ∀ d ∈ tables_1, d.before a0 Z = true) (ws : List Jvm.Cond) (a1 a2 : Addr) (k1 k2 : ClassId) (x0 x1 x2 x3 x4 x5 x6 x7 x8 y0 y1 y2 y3 y4 y5 y6 y7 y8 : UInt64) (U0 U1 U2 U3 U4 U5 U6 U7 U8 W0 W1 W2 W3 W4 W5 W6 W7 W8 : Int) (h0 : Heap) (n0 : Nat) (Z0 : n0 ≤ h0.size) (A1 : AR Z h0 a1 k1 .double [.double x0, .double x1, .double x2, .double x3, .double x4, .double x5, .double x6, .double x7, .double x8]) (A2 : AR Z h0 a2 k2 .double [.double y0, .double y1, .double y2, .double y3, .double y4, .double y5, .double y6, .double y7, .double y8]) (HX0 : Db 3145728 U0 0 x0) (HX1 : Db 3145728 U1 0 x1) (HX2 : Db 3145728 U2 0 x2) (HX3 : Db 3145728 U3 0 x3) (HX4 : Db 3145728 U4 0 x4) (HX5 : Db 3145728 U5 0 x5) (HX6 : Db 3145728 U6 0 x6) (HX7 : Db 3145728 U7 0 x7) (HX8 : Db 3145728 U8 0 x8) (HY0 : Db 3145728 W0 0 y0) (HY1 : Db 3145728 W1 0 y1) (HY2 : Db 3145728 W2 0 y2) (HY3 : Db 3145728 W3 0 y3) (HY4 : Db 3145728 W4 0 y4) (HY5 : Db 3145728 W5 0 y5) (HY6 : Db 3145728 W6 0 y6) (HY7 : Db 3145728 W7 0 y7) (HY8 : Db 3145728 W8 0 y8) :
    Ct l Z (⟨"com/example/twelvefold/twelvefold/FrameTransformMatrix", "rowDot", "([DI[DI)D"⟩ : MethodName) prog_6_method_13_code 4 (some .double) ws ({ frames := 1, cells := 0, slots := 0, locals := 18 } : Room) #[.ref a1, .int (2 : Int32), .ref a2, .int (2 : Int32)] h0 (fun v h L => ∃ d, v = some (.double d) ∧ Db (3145728 * 3145728 + 3145728 * 3145728 + 3145728 * 3145728) (U6 * W6 + U7 * W7 + U8 * W8) 0 d ∧ Fr n0 L ∧ h = h0) := by
  refine Ct.intro pn_6 #[.val (.ref a1), .val (.int (2 : Int32)), .val (.ref a2), .val (.int (2 : Int32))] (fun _ => by first | (simp [entryFrame, mkF, argsToLocals, Value.category, maxLocals]; done) | rfl) ?_
  intro p e s m below meth c T0 X0 hx hZ hby hml hown hnm hret hlk e0
  have N0 := Fr.nil n0
  refine s_aloadN X0 hx (hb hby d6_0) rfl rfl 1 rfl ?_
  refine s_iloadN X0 hx (hb hby d6_1) rfl 2 rfl ?_
  refine s_iconst X0 hx (hb hby d6_2) (0 : Int32) rfl 3 rfl ?_
  obtain ⟨v95, T95, L95, X95, hQ95, st95⟩ := callStat X0 hx hZ hown (wd hw 28 _ rfl) (wd hw 29 _ rfl) (wd hw 10 _ rfl) (wd hw 30 _ rfl) (by decide) (rm_at l Z a0 hw [] (2 : Int32) (0 : Int32) (6 : Int32) h0 n0 Z0 (by decide)) e0 (L := #[.val (.ref a1), .val (.int (2 : Int32)), .val (.ref a2), .val (.int (2 : Int32))]) (hb hby d6_3) (by rw [hml]; rfl) [.int (2 : Int32), .int (0 : Int32)] [.ref a1] rfl rfl pd_5 rfl 1 (by show 2 * 0 + _ ≤ _; exact Nat.le_of_eq rfl) (by decide) (by decide) (by decide) (by decide)
  obtain ⟨rfl, N95, hh95⟩ := hQ95
  have M95 := Fr.app N0 N95
  refine Go.via st95 ?_
  show Go p e below _ (T95.setTop (mkF m 6 #[.val (.ref a1), .val (.int (2 : Int32)), .val (.ref a2), .val (.int (2 : Int32))] [.int (6 : Int32), .ref a1]))
  refine s_daload X95 hx hZ hh95 A1 (hb hby d6_6) (j := (6 : Int32)) 6 (by decide) (.double x6) rfl 7 rfl ?_
  refine s_aloadN X95 hx (hb hby d6_7) rfl rfl 8 rfl ?_
  refine s_iloadN X95 hx (hb hby d6_8) rfl 9 rfl ?_
  refine s_iconst X95 hx (hb hby d6_9) (0 : Int32) rfl 10 rfl ?_
  obtain ⟨v96, T96, L96, X96, hQ96, st96⟩ := callStat X95 hx hZ hown (wd hw 28 _ rfl) (wd hw 29 _ rfl) (wd hw 10 _ rfl) (wd hw 30 _ rfl) (by decide) (rm_at l Z a0 hw [] (2 : Int32) (0 : Int32) (6 : Int32) h0 n0 Z0 (by decide)) hh95 (L := #[.val (.ref a1), .val (.int (2 : Int32)), .val (.ref a2), .val (.int (2 : Int32))]) (hb hby d6_10) (by rw [hml]; rfl) [.int (2 : Int32), .int (0 : Int32)] [.ref a2, .double x6] rfl rfl pd_5 rfl 3 (by show 2 * 0 + _ ≤ _; exact Nat.le_of_eq rfl) (by decide) (by decide) (by decide) (by decide)
  obtain ⟨rfl, N96, hh96⟩ := hQ96
  have M96 := Fr.app M95 N96
  refine Go.via st96 ?_
  show Go p e below _ (T96.setTop (mkF m 13 #[.val (.ref a1), .val (.int (2 : Int32)), .val (.ref a2), .val (.int (2 : Int32))] [.int (6 : Int32), .ref a2, .double x6]))
  refine s_daload X96 hx hZ hh96 A2 (hb hby d6_13) (j := (6 : Int32)) 6 (by decide) (.double y6) rfl 14 rfl ?_
  have Dd97 := Db.mul HX6 HY6 (by decide)
  obtain ⟨d97, h_d97⟩ : ∃ v, FP.dmul x6 y6 = v := ⟨_, rfl⟩
  rw [h_d97] at Dd97
  refine s_dmul X96 hx (hb hby d6_14) d97 h_d97 Dd97.nn 15 rfl ?_
  refine s_aloadN X96 hx (hb hby d6_15) rfl rfl 16 rfl ?_
  refine s_iloadN X96 hx (hb hby d6_16) rfl 17 rfl ?_
  refine s_iconst X96 hx (hb hby d6_17) (1 : Int32) rfl 18 rfl ?_
  obtain ⟨v98, T98, L98, X98, hQ98, st98⟩ := callStat X96 hx hZ hown (wd hw 28 _ rfl) (wd hw 29 _ rfl) (wd hw 10 _ rfl) (wd hw 30 _ rfl) (by decide) (rm_at l Z a0 hw [] (2 : Int32) (1 : Int32) (7 : Int32) h0 n0 Z0 (by decide)) hh96 (L := #[.val (.ref a1), .val (.int (2 : Int32)), .val (.ref a2), .val (.int (2 : Int32))]) (hb hby d6_18) (by rw [hml]; rfl) [.int (2 : Int32), .int (1 : Int32)] [.ref a1, .double d97] rfl rfl pd_5 rfl 3 (by show 2 * 0 + _ ≤ _; exact Nat.le_of_eq rfl) (by decide) (by decide) (by decide) (by decide)
  obtain ⟨rfl, N98, hh98⟩ := hQ98
  have M98 := Fr.app M96 N98
  refine Go.via st98 ?_
  show Go p e below _ (T98.setTop (mkF m 21 #[.val (.ref a1), .val (.int (2 : Int32)), .val (.ref a2), .val (.int (2 : Int32))] [.int (7 : Int32), .ref a1, .double d97]))
  refine s_daload X98 hx hZ hh98 A1 (hb hby d6_21) (j := (7 : Int32)) 7 (by decide) (.double x7) rfl 22 rfl ?_
  refine s_aloadN X98 hx (hb hby d6_22) rfl rfl 23 rfl ?_
  refine s_iloadN X98 hx (hb hby d6_23) rfl 24 rfl ?_
  refine s_iconst X98 hx (hb hby d6_24) (1 : Int32) rfl 25 rfl ?_
  obtain ⟨v99, T99, L99, X99, hQ99, st99⟩ := callStat X98 hx hZ hown (wd hw 28 _ rfl) (wd hw 29 _ rfl) (wd hw 10 _ rfl) (wd hw 30 _ rfl) (by decide) (rm_at l Z a0 hw [] (2 : Int32) (1 : Int32) (7 : Int32) h0 n0 Z0 (by decide)) hh98 (L := #[.val (.ref a1), .val (.int (2 : Int32)), .val (.ref a2), .val (.int (2 : Int32))]) (hb hby d6_25) (by rw [hml]; rfl) [.int (2 : Int32), .int (1 : Int32)] [.ref a2, .double x7, .double d97] rfl rfl pd_5 rfl 5 (by show 2 * 0 + _ ≤ _; exact Nat.le_of_eq rfl) (by decide) (by decide) (by decide) (by decide)
  obtain ⟨rfl, N99, hh99⟩ := hQ99
  have M99 := Fr.app M98 N99
  refine Go.via st99 ?_
  show Go p e below _ (T99.setTop (mkF m 28 #[.val (.ref a1), .val (.int (2 : Int32)), .val (.ref a2), .val (.int (2 : Int32))] [.int (7 : Int32), .ref a2, .double x7, .double d97]))
  refine s_daload X99 hx hZ hh99 A2 (hb hby d6_28) (j := (7 : Int32)) 7 (by decide) (.double y7) rfl 29 rfl ?_
  have Dd100 := Db.mul HX7 HY7 (by decide)
  obtain ⟨d100, h_d100⟩ : ∃ v, FP.dmul x7 y7 = v := ⟨_, rfl⟩
  rw [h_d100] at Dd100
  refine s_dmul X99 hx (hb hby d6_29) d100 h_d100 Dd100.nn 30 rfl ?_
  have Dd101 := Db.add Dd97 Dd100 (by decide)
  obtain ⟨d101, h_d101⟩ : ∃ v, FP.dadd d97 d100 = v := ⟨_, rfl⟩
  rw [h_d101] at Dd101
  refine s_dadd X99 hx (hb hby d6_30) d101 h_d101 Dd101.nn 31 rfl ?_
  refine s_aloadN X99 hx (hb hby d6_31) rfl rfl 32 rfl ?_
  refine s_iloadN X99 hx (hb hby d6_32) rfl 33 rfl ?_
  refine s_iconst X99 hx (hb hby d6_33) (2 : Int32) rfl 34 rfl ?_
  obtain ⟨v102, T102, L102, X102, hQ102, st102⟩ := callStat X99 hx hZ hown (wd hw 28 _ rfl) (wd hw 29 _ rfl) (wd hw 10 _ rfl) (wd hw 30 _ rfl) (by decide) (rm_at l Z a0 hw [] (2 : Int32) (2 : Int32) (8 : Int32) h0 n0 Z0 (by decide)) hh99 (L := #[.val (.ref a1), .val (.int (2 : Int32)), .val (.ref a2), .val (.int (2 : Int32))]) (hb hby d6_34) (by rw [hml]; rfl) [.int (2 : Int32), .int (2 : Int32)] [.ref a1, .double d101] rfl rfl pd_5 rfl 3 (by show 2 * 0 + _ ≤ _; exact Nat.le_of_eq rfl) (by decide) (by decide) (by decide) (by decide)
  obtain ⟨rfl, N102, hh102⟩ := hQ102
  have M102 := Fr.app M99 N102
  refine Go.via st102 ?_
  show Go p e below _ (T102.setTop (mkF m 37 #[.val (.ref a1), .val (.int (2 : Int32)), .val (.ref a2), .val (.int (2 : Int32))] [.int (8 : Int32), .ref a1, .double d101]))
  refine s_daload X102 hx hZ hh102 A1 (hb hby d6_37) (j := (8 : Int32)) 8 (by decide) (.double x8) rfl 38 rfl ?_
  refine s_aloadN X102 hx (hb hby d6_38) rfl rfl 39 rfl ?_
  refine s_iloadN X102 hx (hb hby d6_39) rfl 40 rfl ?_
  refine s_iconst X102 hx (hb hby d6_40) (2 : Int32) rfl 41 rfl ?_
  obtain ⟨v103, T103, L103, X103, hQ103, st103⟩ := callStat X102 hx hZ hown (wd hw 28 _ rfl) (wd hw 29 _ rfl) (wd hw 10 _ rfl) (wd hw 30 _ rfl) (by decide) (rm_at l Z a0 hw [] (2 : Int32) (2 : Int32) (8 : Int32) h0 n0 Z0 (by decide)) hh102 (L := #[.val (.ref a1), .val (.int (2 : Int32)), .val (.ref a2), .val (.int (2 : Int32))]) (hb hby d6_41) (by rw [hml]; rfl) [.int (2 : Int32), .int (2 : Int32)] [.ref a2, .double x8, .double d101] rfl rfl pd_5 rfl 5 (by show 2 * 0 + _ ≤ _; exact Nat.le_of_eq rfl) (by decide) (by decide) (by decide) (by decide)
  obtain ⟨rfl, N103, hh103⟩ := hQ103
  have M103 := Fr.app M102 N103
  refine Go.via st103 ?_
  show Go p e below _ (T103.setTop (mkF m 44 #[.val (.ref a1), .val (.int (2 : Int32)), .val (.ref a2), .val (.int (2 : Int32))] [.int (8 : Int32), .ref a2, .double x8, .double d101]))
  refine s_daload X103 hx hZ hh103 A2 (hb hby d6_44) (j := (8 : Int32)) 8 (by decide) (.double y8) rfl 45 rfl ?_
  have Dd104 := Db.mul HX8 HY8 (by decide)
  obtain ⟨d104, h_d104⟩ : ∃ v, FP.dmul x8 y8 = v := ⟨_, rfl⟩
  rw [h_d104] at Dd104
  refine s_dmul X103 hx (hb hby d6_45) d104 h_d104 Dd104.nn 46 rfl ?_
  have Dd105 := Db.add Dd101 Dd104 (by decide)
  obtain ⟨d105, h_d105⟩ : ∃ v, FP.dadd d101 d104 = v := ⟨_, rfl⟩
  rw [h_d105] at Dd105
  refine s_dadd X103 hx (hb hby d6_46) d105 h_d105 Dd105.nn 47 rfl ?_
  exact retD X103 hx hlk hret (hb hby d6_47) hh103 ⟨_, rfl, Dd105, M103, rfl⟩ (by decide) (by decide)
theorem d4_0 : decode prog_6_method_11_code 0 = .ok (.bipush 9, 2) := by decide +kernel
theorem d4_2 : decode prog_6_method_11_code 2 = .ok (.newarray .double, 2) := by decide +kernel
theorem d4_4 : decode prog_6_method_11_code 4 = .ok (.astore_n 2, 1) := by decide +kernel
theorem d4_5 : decode prog_6_method_11_code 5 = .ok (.iconst 0, 1) := by decide +kernel
theorem d4_6 : decode prog_6_method_11_code 6 = .ok (.istore_n 3, 1) := by decide +kernel
theorem d4_7 : decode prog_6_method_11_code 7 = .ok (.iload_n 3, 1) := by decide +kernel
theorem d4_8 : decode prog_6_method_11_code 8 = .ok (.iconst 3, 1) := by decide +kernel
theorem d4_9 : decode prog_6_method_11_code 9 = .ok (.if_icmp .ge 43, 3) := by decide +kernel
theorem d4_12 : decode prog_6_method_11_code 12 = .ok (.iconst 0, 1) := by decide +kernel
theorem d4_13 : decode prog_6_method_11_code 13 = .ok (.istore 4, 2) := by decide +kernel
theorem d4_15 : decode prog_6_method_11_code 15 = .ok (.iload 4, 2) := by decide +kernel
theorem d4_17 : decode prog_6_method_11_code 17 = .ok (.iconst 3, 1) := by decide +kernel
theorem d4_18 : decode prog_6_method_11_code 18 = .ok (.if_icmp .ge 28, 3) := by decide +kernel
theorem d4_21 : decode prog_6_method_11_code 21 = .ok (.aload_n 2, 1) := by decide +kernel
theorem d4_22 : decode prog_6_method_11_code 22 = .ok (.iload_n 3, 1) := by decide +kernel
theorem d4_23 : decode prog_6_method_11_code 23 = .ok (.iload 4, 2) := by decide +kernel
theorem d4_25 : decode prog_6_method_11_code 25 = .ok (.invokestatic 49, 3) := by decide +kernel
theorem d4_28 : decode prog_6_method_11_code 28 = .ok (.aload_n 0, 1) := by decide +kernel
theorem d4_29 : decode prog_6_method_11_code 29 = .ok (.getfield 7, 3) := by decide +kernel
theorem d4_32 : decode prog_6_method_11_code 32 = .ok (.iload_n 3, 1) := by decide +kernel
theorem d4_33 : decode prog_6_method_11_code 33 = .ok (.aload_n 1, 1) := by decide +kernel
theorem d4_34 : decode prog_6_method_11_code 34 = .ok (.iload 4, 2) := by decide +kernel
theorem d4_36 : decode prog_6_method_11_code 36 = .ok (.invokestatic 53, 3) := by decide +kernel
theorem d4_39 : decode prog_6_method_11_code 39 = .ok (.dastore, 1) := by decide +kernel
theorem d4_40 : decode prog_6_method_11_code 40 = .ok (.iinc 4 1, 3) := by decide +kernel
theorem d4_43 : decode prog_6_method_11_code 43 = .ok (.goto (-28), 3) := by decide +kernel
theorem d4_46 : decode prog_6_method_11_code 46 = .ok (.iinc 3 1, 3) := by decide +kernel
theorem d4_49 : decode prog_6_method_11_code 49 = .ok (.goto (-42), 3) := by decide +kernel
theorem d4_52 : decode prog_6_method_11_code 52 = .ok (.new 8, 3) := by decide +kernel
theorem d4_55 : decode prog_6_method_11_code 55 = .ok (.dup, 1) := by decide +kernel
theorem d4_56 : decode prog_6_method_11_code 56 = .ok (.aload_n 2, 1) := by decide +kernel
theorem d4_57 : decode prog_6_method_11_code 57 = .ok (.invokespecial 28, 3) := by decide +kernel
theorem d4_60 : decode prog_6_method_11_code 60 = .ok (.areturn, 1) := by decide +kernel
theorem pd_4 : parseMethodDescriptor "([D)Lcom/example/twelvefold/twelvefold/FrameTransformMatrix;" = some ⟨[.array .double], some (.object "com/example/twelvefold/twelvefold/FrameTransformMatrix")⟩ := by decide +kernel
theorem pn_4 : plainFor (⟨"com/example/twelvefold/twelvefold/FrameTransformMatrix", "timesTransposed", "([D)Lcom/example/twelvefold/twelvefold/FrameTransformMatrix;"⟩ : MethodName) = true := plainFor_of_name (by show plainName "com/example/twelvefold/twelvefold/FrameTransformMatrix" = true; first | (simp [plainName, overriddenIn]; done) | decide +kernel)
set_option maxRecDepth 65536 in
set_option maxHeartbeats 40000000 in
theorem rm_tt (l : Launch) (Z : State) (a0 : Array Value) (hw : ∀ d ∈ tables_1, d.before a0 Z = true) (ws : List Jvm.Cond) (a1 a2 a3 : Addr) (k2 k3 : ClassId) (x0 x1 x2 x3 x4 x5 x6 x7 x8 y0 y1 y2 y3 y4 y5 y6 y7 y8 : UInt64) (U0 U1 U2 U3 U4 U5 U6 U7 U8 W0 W1 W2 W3 W4 W5 W6 W7 W8 : Int) (h0 : Heap) (n0 : Nat) (Z0 : n0 ≤ h0.size) (F_1 : Fld Z h0 a1 "com/example/twelvefold/twelvefold/FrameTransformMatrix" "elements" "[D" (.ref a2)) (A2 : AR Z h0 a2 k2 .double [.double x0, .double x1, .double x2, .double x3, .double x4, .double x5, .double x6, .double x7, .double x8]) (A3 : AR Z h0 a3 k3 .double [.double y0, .double y1, .double y2, .double y3, .double y4, .double y5, .double y6, .double y7, .double y8]) (HX0 : Db 3145728 U0 0 x0) (HX1 : Db 3145728 U1 0 x1) (HX2 : Db 3145728 U2 0 x2) (HX3 : Db 3145728 U3 0 x3) (HX4 : Db 3145728 U4 0 x4) (HX5 : Db 3145728 U5 0 x5) (HX6 : Db 3145728 U6 0 x6) (HX7 : Db 3145728 U7 0 x7) (HX8 : Db 3145728 U8 0 x8) (HY0 : Db 3145728 W0 0 y0) (HY1 : Db 3145728 W1 0 y1) (HY2 : Db 3145728 W2 0 y2) (HY3 : Db 3145728 W3 0 y3) (HY4 : Db 3145728 W4 0 y4) (HY5 : Db 3145728 W5 0 y5) (HY6 : Db 3145728 W6 0 y6) (HY7 : Db 3145728 W7 0 y7) (HY8 : Db 3145728 W8 0 y8) :
    Ct l Z (⟨"com/example/twelvefold/twelvefold/FrameTransformMatrix", "timesTransposed", "([D)Lcom/example/twelvefold/twelvefold/FrameTransformMatrix;"⟩ : MethodName) prog_6_method_11_code 5 (some (.object "com/example/twelvefold/twelvefold/FrameTransformMatrix")) ws ({ frames := 2, cells := 2, slots := 10, locals := 35 } : Room) #[.ref a1, .ref a3] h0 (fun v h L => ∃ r t k d0 d1 d2 d3 d4 d5 d6 d7 d8, v = some (.ref r) ∧ Fr n0 L ∧ Keep h0 h [] ∧ h0.size ≤ r ∧ h0.size ≤ t ∧ t ≠ r ∧ Fld Z h r "com/example/twelvefold/twelvefold/FrameTransformMatrix" "elements" "[D" (.ref t) ∧ AR Z h t k .double [.double d0, .double d1, .double d2, .double d3, .double d4, .double d5, .double d6, .double d7, .double d8] ∧ Db (3145728 * 3145728 + 3145728 * 3145728 + 3145728 * 3145728) (U0 * W0 + U1 * W1 + U2 * W2) 0 d0 ∧ Db (3145728 * 3145728 + 3145728 * 3145728 + 3145728 * 3145728) (U0 * W3 + U1 * W4 + U2 * W5) 0 d1 ∧ Db (3145728 * 3145728 + 3145728 * 3145728 + 3145728 * 3145728) (U0 * W6 + U1 * W7 + U2 * W8) 0 d2 ∧ Db (3145728 * 3145728 + 3145728 * 3145728 + 3145728 * 3145728) (U3 * W0 + U4 * W1 + U5 * W2) 0 d3 ∧ Db (3145728 * 3145728 + 3145728 * 3145728 + 3145728 * 3145728) (U3 * W3 + U4 * W4 + U5 * W5) 0 d4 ∧ Db (3145728 * 3145728 + 3145728 * 3145728 + 3145728 * 3145728) (U3 * W6 + U4 * W7 + U5 * W8) 0 d5 ∧ Db (3145728 * 3145728 + 3145728 * 3145728 + 3145728 * 3145728) (U6 * W0 + U7 * W1 + U8 * W2) 0 d6 ∧ Db (3145728 * 3145728 + 3145728 * 3145728 + 3145728 * 3145728) (U6 * W3 + U7 * W4 + U8 * W5) 0 d7 ∧ Db (3145728 * 3145728 + 3145728 * 3145728 + 3145728 * 3145728) (U6 * W6 + U7 * W7 + U8 * W8) 0 d8) := by
  refine Ct.intro pn_4 #[.val (.ref a1), .val (.ref a3), .unset, .unset, .unset] (fun _ => by first | (simp [entryFrame, mkF, argsToLocals, Value.category, maxLocals]; done) | rfl) ?_
  intro p e s m below meth c T0 X0 hx hZ hby hml hown hnm hret hlk e0
  have N0 := Fr.nil n0
  have K0 := Keep.refl h0 []
  refine s_bipush X0 hx (hb hby d4_0) (9 : Int32) rfl 2 rfl ?_
  obtain ⟨T106, h106, c106, X106, e106, E106, A106, st106⟩ := s_newarray X0 hx hZ (aty := .double) (wd hw 7 _ rfl) e0 (hb hby d4_2) #[.val (.ref a1), .val (.ref a3), .unset, .unset, .unset] [] (n := (9 : Int32)) 9 (by decide) [.double (0 : UInt64), .double (0 : UInt64), .double (0 : UInt64), .double (0 : UInt64), .double (0 : UInt64), .double (0 : UInt64), .double (0 : UInt64), .double (0 : UInt64), .double (0 : UInt64)] rfl (by decide) (by decide) (by decide) 4 rfl
  obtain ⟨a106, g106⟩ : ∃ z, z = h0.size := ⟨_, rfl⟩
  rw [← g106] at A106 st106
  have ne107 : a1 ≠ a106 := by rw [g106]; exact Nat.ne_of_lt F_1.lt
  have ne108 : a2 ≠ a106 := by rw [g106]; exact Nat.ne_of_lt A2.lt
  have ne109 : a3 ≠ a106 := by rw [g106]; exact Nat.ne_of_lt A3.lt
  have q110 : n0 ≤ a106 := by rw [g106]; exact Z0
  have q111 : h0.size ≤ a106 := by rw [g106]; exact K0.1
  have K112 := K0.ext E106
  have F113 := F_1.ext E106
  have F114 := A2.ext E106
  have F115 := A3.ext E106
  have Z116 := Nat.le_trans Z0 E106.1
  refine Go.via st106 ?_
  refine s_astoreN X106 hx (hb hby d4_4) rfl #[.val (.ref a1), .val (.ref a3), .val (.ref a106), .unset, .unset] rfl 5 rfl ?_
  refine s_iconst X106 hx (hb hby d4_5) (0 : Int32) rfl 6 rfl ?_
  refine s_istoreN X106 hx (hb hby d4_6) #[.val (.ref a1), .val (.ref a3), .val (.ref a106), .val (.int (0 : Int32)), .unset] rfl 7 rfl ?_
  refine s_iloadN X106 hx (hb hby d4_7) rfl 8 rfl ?_
  refine s_iconst X106 hx (hb hby d4_8) (3 : Int32) rfl 9 rfl ?_
  refine s_icmpN X106 hx (hb hby d4_9) (by decide) 12 rfl ?_
  refine s_iconst X106 hx (hb hby d4_12) (0 : Int32) rfl 13 rfl ?_
  refine s_istore X106 hx (hb hby d4_13) #[.val (.ref a1), .val (.ref a3), .val (.ref a106), .val (.int (0 : Int32)), .val (.int (0 : Int32))] rfl 15 rfl ?_
  refine s_iload X106 hx (hb hby d4_15) rfl 17 rfl ?_
  refine s_iconst X106 hx (hb hby d4_17) (3 : Int32) rfl 18 rfl ?_
  refine s_icmpN X106 hx (hb hby d4_18) (by decide) 21 rfl ?_
  refine s_aloadN X106 hx (hb hby d4_21) rfl rfl 22 rfl ?_
  refine s_iloadN X106 hx (hb hby d4_22) rfl 23 rfl ?_
  refine s_iload X106 hx (hb hby d4_23) rfl 25 rfl ?_
  obtain ⟨v117, T117, L117, X117, hQ117, st117⟩ := callStat X106 hx hZ hown (wd hw 28 _ rfl) (wd hw 29 _ rfl) (wd hw 10 _ rfl) (wd hw 30 _ rfl) (by decide) (rm_at l Z a0 hw [] (0 : Int32) (0 : Int32) (0 : Int32) h106 n0 Z116 (by decide)) e106 (L := #[.val (.ref a1), .val (.ref a3), .val (.ref a106), .val (.int (0 : Int32)), .val (.int (0 : Int32))]) (hb hby d4_25) (by rw [hml]; rfl) [.int (0 : Int32), .int (0 : Int32)] [.ref a106] rfl rfl pd_5 rfl 1 (by show 2 * 0 + _ ≤ _; exact Nat.le_of_eq rfl) (by decide) (by decide) (by decide) (by decide)
  obtain ⟨rfl, N117, hh117⟩ := hQ117
  have M117 := Fr.app N0 N117
  refine Go.via st117 ?_
  show Go p e below _ (T117.setTop (mkF m 28 #[.val (.ref a1), .val (.ref a3), .val (.ref a106), .val (.int (0 : Int32)), .val (.int (0 : Int32))] [.int (0 : Int32), .ref a106]))
  refine s_aloadN X117 hx (hb hby d4_28) rfl rfl 29 rfl ?_
  obtain ⟨T118, X118, e118, st118⟩ := getF X117 hx hZ hown (host := "") (Or.inl (wd hw 17 _ rfl)) Via.refl hh117 F113 (g := (mkF m 29 #[.val (.ref a1), .val (.ref a3), .val (.ref a106), .val (.int (0 : Int32)), .val (.int (0 : Int32))] [.ref a1, .int (0 : Int32), .ref a106])) rfl rfl (hb hby d4_29)
  refine Go.via st118 ?_
  show Go p e below _ (T118.setTop (mkF m 32 #[.val (.ref a1), .val (.ref a3), .val (.ref a106), .val (.int (0 : Int32)), .val (.int (0 : Int32))] [.ref a2, .int (0 : Int32), .ref a106]))
  refine s_iloadN X118 hx (hb hby d4_32) rfl 33 rfl ?_
  refine s_aloadN X118 hx (hb hby d4_33) rfl rfl 34 rfl ?_
  refine s_iload X118 hx (hb hby d4_34) rfl 36 rfl ?_
  obtain ⟨v119, T119, L119, X119, hQ119, st119⟩ := callStat X118 hx hZ hown (wd hw 31 _ rfl) (wd hw 32 _ rfl) (wd hw 10 _ rfl) (wd hw 33 _ rfl) (by decide) (rm_dot00 l Z a0 hw [] a2 a3 k2 k3 x0 x1 x2 x3 x4 x5 x6 x7 x8 y0 y1 y2 y3 y4 y5 y6 y7 y8 _ _ _ _ _ _ _ _ _ _ _ _ _ _ _ _ _ _ h106 n0 Z116 F114 F115 HX0 HX1 HX2 HX3 HX4 HX5 HX6 HX7 HX8 HY0 HY1 HY2 HY3 HY4 HY5 HY6 HY7 HY8) e118 (L := #[.val (.ref a1), .val (.ref a3), .val (.ref a106), .val (.int (0 : Int32)), .val (.int (0 : Int32))]) (hb hby d4_36) (by rw [hml]; rfl) [.ref a2, .int (0 : Int32), .ref a3, .int (0 : Int32)] [.int (0 : Int32), .ref a106] rfl rfl pd_6 rfl 2 (by show 2 * 0 + _ ≤ _; exact Nat.le_of_eq rfl) (by decide) (by decide) (by decide) (by decide)
  obtain ⟨d119, rfl, B119, N119, hh119⟩ := hQ119
  have M119 := Fr.app M117 N119
  refine Go.via st119 ?_
  show Go p e below _ (T119.setTop (mkF m 39 #[.val (.ref a1), .val (.ref a3), .val (.ref a106), .val (.int (0 : Int32)), .val (.int (0 : Int32))] [.double d119, .int (0 : Int32), .ref a106]))
  obtain ⟨T120, h120, X120, e120, W120, A120, st120⟩ := s_dastore X119 hx hZ hh119 A106 (hb hby d4_39) #[.val (.ref a1), .val (.ref a3), .val (.ref a106), .val (.int (0 : Int32)), .val (.int (0 : Int32))] [] (j := (0 : Int32)) 0 (by decide) (by show 0 < 9; decide) d119 [.double d119, .double (0 : UInt64), .double (0 : UInt64), .double (0 : UInt64), .double (0 : UInt64), .double (0 : UInt64), .double (0 : UInt64), .double (0 : UInt64), .double (0 : UInt64)] rfl 40 rfl
  have N120 := Fr.snoc X120 M119 q110
  have F121 := F113.other W120 (Or.inl ne107)
  have F122 := F114.other W120 ne108
  have F123 := F115.other W120 ne109
  have Z124 : n0 ≤ h120.size := by rw [W120.size]; exact Z116
  have K125 := K112.wr W120 (Or.inr q111)
  refine Go.via st120 ?_
  refine s_iinc X120 hx (hb hby d4_40) (1 : Int32) rfl rfl #[.val (.ref a1), .val (.ref a3), .val (.ref a106), .val (.int (0 : Int32)), .val (.int (1 : Int32))] rfl 43 rfl ?_
  refine s_goto X120 hx (hb hby d4_43) 15 (by decide) (by decide) ?_
  refine s_iload X120 hx (hb hby d4_15) rfl 17 rfl ?_
  refine s_iconst X120 hx (hb hby d4_17) (3 : Int32) rfl 18 rfl ?_
  refine s_icmpN X120 hx (hb hby d4_18) (by decide) 21 rfl ?_
  refine s_aloadN X120 hx (hb hby d4_21) rfl rfl 22 rfl ?_
  refine s_iloadN X120 hx (hb hby d4_22) rfl 23 rfl ?_
  refine s_iload X120 hx (hb hby d4_23) rfl 25 rfl ?_
  obtain ⟨v126, T126, L126, X126, hQ126, st126⟩ := callStat X120 hx hZ hown (wd hw 28 _ rfl) (wd hw 29 _ rfl) (wd hw 10 _ rfl) (wd hw 30 _ rfl) (by decide) (rm_at l Z a0 hw [] (0 : Int32) (1 : Int32) (1 : Int32) h120 n0 Z124 (by decide)) e120 (L := #[.val (.ref a1), .val (.ref a3), .val (.ref a106), .val (.int (0 : Int32)), .val (.int (1 : Int32))]) (hb hby d4_25) (by rw [hml]; rfl) [.int (0 : Int32), .int (1 : Int32)] [.ref a106] rfl rfl pd_5 rfl 1 (by show 2 * 0 + _ ≤ _; exact Nat.le_of_eq rfl) (by decide) (by decide) (by decide) (by decide)
  obtain ⟨rfl, N126, hh126⟩ := hQ126
  have M126 := Fr.app N120 N126
  refine Go.via st126 ?_
  show Go p e below _ (T126.setTop (mkF m 28 #[.val (.ref a1), .val (.ref a3), .val (.ref a106), .val (.int (0 : Int32)), .val (.int (1 : Int32))] [.int (1 : Int32), .ref a106]))
  refine s_aloadN X126 hx (hb hby d4_28) rfl rfl 29 rfl ?_
  obtain ⟨T127, X127, e127, st127⟩ := getF X126 hx hZ hown (host := "") (Or.inl (wd hw 17 _ rfl)) Via.refl hh126 F121 (g := (mkF m 29 #[.val (.ref a1), .val (.ref a3), .val (.ref a106), .val (.int (0 : Int32)), .val (.int (1 : Int32))] [.ref a1, .int (1 : Int32), .ref a106])) rfl rfl (hb hby d4_29)
  refine Go.via st127 ?_
  show Go p e below _ (T127.setTop (mkF m 32 #[.val (.ref a1), .val (.ref a3), .val (.ref a106), .val (.int (0 : Int32)), .val (.int (1 : Int32))] [.ref a2, .int (1 : Int32), .ref a106]))
  refine s_iloadN X127 hx (hb hby d4_32) rfl 33 rfl ?_
  refine s_aloadN X127 hx (hb hby d4_33) rfl rfl 34 rfl ?_
  refine s_iload X127 hx (hb hby d4_34) rfl 36 rfl ?_
  obtain ⟨v128, T128, L128, X128, hQ128, st128⟩ := callStat X127 hx hZ hown (wd hw 31 _ rfl) (wd hw 32 _ rfl) (wd hw 10 _ rfl) (wd hw 33 _ rfl) (by decide) (rm_dot01 l Z a0 hw [] a2 a3 k2 k3 x0 x1 x2 x3 x4 x5 x6 x7 x8 y0 y1 y2 y3 y4 y5 y6 y7 y8 _ _ _ _ _ _ _ _ _ _ _ _ _ _ _ _ _ _ h120 n0 Z124 F122 F123 HX0 HX1 HX2 HX3 HX4 HX5 HX6 HX7 HX8 HY0 HY1 HY2 HY3 HY4 HY5 HY6 HY7 HY8) e127 (L := #[.val (.ref a1), .val (.ref a3), .val (.ref a106), .val (.int (0 : Int32)), .val (.int (1 : Int32))]) (hb hby d4_36) (by rw [hml]; rfl) [.ref a2, .int (0 : Int32), .ref a3, .int (1 : Int32)] [.int (1 : Int32), .ref a106] rfl rfl pd_6 rfl 2 (by show 2 * 0 + _ ≤ _; exact Nat.le_of_eq rfl) (by decide) (by decide) (by decide) (by decide)
  obtain ⟨d128, rfl, B128, N128, hh128⟩ := hQ128
  have M128 := Fr.app M126 N128
  refine Go.via st128 ?_
  show Go p e below _ (T128.setTop (mkF m 39 #[.val (.ref a1), .val (.ref a3), .val (.ref a106), .val (.int (0 : Int32)), .val (.int (1 : Int32))] [.double d128, .int (1 : Int32), .ref a106]))
  obtain ⟨T129, h129, X129, e129, W129, A129, st129⟩ := s_dastore X128 hx hZ hh128 A120 (hb hby d4_39) #[.val (.ref a1), .val (.ref a3), .val (.ref a106), .val (.int (0 : Int32)), .val (.int (1 : Int32))] [] (j := (1 : Int32)) 1 (by decide) (by show 1 < 9; decide) d128 [.double d119, .double d128, .double (0 : UInt64), .double (0 : UInt64), .double (0 : UInt64), .double (0 : UInt64), .double (0 : UInt64), .double (0 : UInt64), .double (0 : UInt64)] rfl 40 rfl
  have N129 := Fr.snoc X129 M128 q110
  have F130 := F121.other W129 (Or.inl ne107)
  have F131 := F122.other W129 ne108
  have F132 := F123.other W129 ne109
  have Z133 : n0 ≤ h129.size := by rw [W129.size]; exact Z124
  have K134 := K125.wr W129 (Or.inr q111)
  refine Go.via st129 ?_
  refine s_iinc X129 hx (hb hby d4_40) (2 : Int32) rfl rfl #[.val (.ref a1), .val (.ref a3), .val (.ref a106), .val (.int (0 : Int32)), .val (.int (2 : Int32))] rfl 43 rfl ?_
  refine s_goto X129 hx (hb hby d4_43) 15 (by decide) (by decide) ?_
  refine s_iload X129 hx (hb hby d4_15) rfl 17 rfl ?_
  refine s_iconst X129 hx (hb hby d4_17) (3 : Int32) rfl 18 rfl ?_
  refine s_icmpN X129 hx (hb hby d4_18) (by decide) 21 rfl ?_
  refine s_aloadN X129 hx (hb hby d4_21) rfl rfl 22 rfl ?_
  refine s_iloadN X129 hx (hb hby d4_22) rfl 23 rfl ?_
  refine s_iload X129 hx (hb hby d4_23) rfl 25 rfl ?_
  obtain ⟨v135, T135, L135, X135, hQ135, st135⟩ := callStat X129 hx hZ hown (wd hw 28 _ rfl) (wd hw 29 _ rfl) (wd hw 10 _ rfl) (wd hw 30 _ rfl) (by decide) (rm_at l Z a0 hw [] (0 : Int32) (2 : Int32) (2 : Int32) h129 n0 Z133 (by decide)) e129 (L := #[.val (.ref a1), .val (.ref a3), .val (.ref a106), .val (.int (0 : Int32)), .val (.int (2 : Int32))]) (hb hby d4_25) (by rw [hml]; rfl) [.int (0 : Int32), .int (2 : Int32)] [.ref a106] rfl rfl pd_5 rfl 1 (by show 2 * 0 + _ ≤ _; exact Nat.le_of_eq rfl) (by decide) (by decide) (by decide) (by decide)
  obtain ⟨rfl, N135, hh135⟩ := hQ135
  have M135 := Fr.app N129 N135
  refine Go.via st135 ?_
  show Go p e below _ (T135.setTop (mkF m 28 #[.val (.ref a1), .val (.ref a3), .val (.ref a106), .val (.int (0 : Int32)), .val (.int (2 : Int32))] [.int (2 : Int32), .ref a106]))
  refine s_aloadN X135 hx (hb hby d4_28) rfl rfl 29 rfl ?_
  obtain ⟨T136, X136, e136, st136⟩ := getF X135 hx hZ hown (host := "") (Or.inl (wd hw 17 _ rfl)) Via.refl hh135 F130 (g := (mkF m 29 #[.val (.ref a1), .val (.ref a3), .val (.ref a106), .val (.int (0 : Int32)), .val (.int (2 : Int32))] [.ref a1, .int (2 : Int32), .ref a106])) rfl rfl (hb hby d4_29)
  refine Go.via st136 ?_
  show Go p e below _ (T136.setTop (mkF m 32 #[.val (.ref a1), .val (.ref a3), .val (.ref a106), .val (.int (0 : Int32)), .val (.int (2 : Int32))] [.ref a2, .int (2 : Int32), .ref a106]))
  refine s_iloadN X136 hx (hb hby d4_32) rfl 33 rfl ?_
  refine s_aloadN X136 hx (hb hby d4_33) rfl rfl 34 rfl ?_
  refine s_iload X136 hx (hb hby d4_34) rfl 36 rfl ?_
  obtain ⟨v137, T137, L137, X137, hQ137, st137⟩ := callStat X136 hx hZ hown (wd hw 31 _ rfl) (wd hw 32 _ rfl) (wd hw 10 _ rfl) (wd hw 33 _ rfl) (by decide) (rm_dot02 l Z a0 hw [] a2 a3 k2 k3 x0 x1 x2 x3 x4 x5 x6 x7 x8 y0 y1 y2 y3 y4 y5 y6 y7 y8 _ _ _ _ _ _ _ _ _ _ _ _ _ _ _ _ _ _ h129 n0 Z133 F131 F132 HX0 HX1 HX2 HX3 HX4 HX5 HX6 HX7 HX8 HY0 HY1 HY2 HY3 HY4 HY5 HY6 HY7 HY8) e136 (L := #[.val (.ref a1), .val (.ref a3), .val (.ref a106), .val (.int (0 : Int32)), .val (.int (2 : Int32))]) (hb hby d4_36) (by rw [hml]; rfl) [.ref a2, .int (0 : Int32), .ref a3, .int (2 : Int32)] [.int (2 : Int32), .ref a106] rfl rfl pd_6 rfl 2 (by show 2 * 0 + _ ≤ _; exact Nat.le_of_eq rfl) (by decide) (by decide) (by decide) (by decide)
  obtain ⟨d137, rfl, B137, N137, hh137⟩ := hQ137
  have M137 := Fr.app M135 N137
  refine Go.via st137 ?_
  show Go p e below _ (T137.setTop (mkF m 39 #[.val (.ref a1), .val (.ref a3), .val (.ref a106), .val (.int (0 : Int32)), .val (.int (2 : Int32))] [.double d137, .int (2 : Int32), .ref a106]))
  obtain ⟨T138, h138, X138, e138, W138, A138, st138⟩ := s_dastore X137 hx hZ hh137 A129 (hb hby d4_39) #[.val (.ref a1), .val (.ref a3), .val (.ref a106), .val (.int (0 : Int32)), .val (.int (2 : Int32))] [] (j := (2 : Int32)) 2 (by decide) (by show 2 < 9; decide) d137 [.double d119, .double d128, .double d137, .double (0 : UInt64), .double (0 : UInt64), .double (0 : UInt64), .double (0 : UInt64), .double (0 : UInt64), .double (0 : UInt64)] rfl 40 rfl
  have N138 := Fr.snoc X138 M137 q110
  have F139 := F130.other W138 (Or.inl ne107)
  have F140 := F131.other W138 ne108
  have F141 := F132.other W138 ne109
  have Z142 : n0 ≤ h138.size := by rw [W138.size]; exact Z133
  have K143 := K134.wr W138 (Or.inr q111)
  refine Go.via st138 ?_
  refine s_iinc X138 hx (hb hby d4_40) (3 : Int32) rfl rfl #[.val (.ref a1), .val (.ref a3), .val (.ref a106), .val (.int (0 : Int32)), .val (.int (3 : Int32))] rfl 43 rfl ?_
  refine s_goto X138 hx (hb hby d4_43) 15 (by decide) (by decide) ?_
  refine s_iload X138 hx (hb hby d4_15) rfl 17 rfl ?_
  refine s_iconst X138 hx (hb hby d4_17) (3 : Int32) rfl 18 rfl ?_
  refine s_icmpY X138 hx (hb hby d4_18) (by decide) 46 (by decide) (by decide) ?_
  refine s_iinc X138 hx (hb hby d4_46) (1 : Int32) rfl rfl #[.val (.ref a1), .val (.ref a3), .val (.ref a106), .val (.int (1 : Int32)), .val (.int (3 : Int32))] rfl 49 rfl ?_
  refine s_goto X138 hx (hb hby d4_49) 7 (by decide) (by decide) ?_
  refine s_iloadN X138 hx (hb hby d4_7) rfl 8 rfl ?_
  refine s_iconst X138 hx (hb hby d4_8) (3 : Int32) rfl 9 rfl ?_
  refine s_icmpN X138 hx (hb hby d4_9) (by decide) 12 rfl ?_
  refine s_iconst X138 hx (hb hby d4_12) (0 : Int32) rfl 13 rfl ?_
  refine s_istore X138 hx (hb hby d4_13) #[.val (.ref a1), .val (.ref a3), .val (.ref a106), .val (.int (1 : Int32)), .val (.int (0 : Int32))] rfl 15 rfl ?_
  refine s_iload X138 hx (hb hby d4_15) rfl 17 rfl ?_
  refine s_iconst X138 hx (hb hby d4_17) (3 : Int32) rfl 18 rfl ?_
  refine s_icmpN X138 hx (hb hby d4_18) (by decide) 21 rfl ?_
  refine s_aloadN X138 hx (hb hby d4_21) rfl rfl 22 rfl ?_
  refine s_iloadN X138 hx (hb hby d4_22) rfl 23 rfl ?_
  refine s_iload X138 hx (hb hby d4_23) rfl 25 rfl ?_
  obtain ⟨v144, T144, L144, X144, hQ144, st144⟩ := callStat X138 hx hZ hown (wd hw 28 _ rfl) (wd hw 29 _ rfl) (wd hw 10 _ rfl) (wd hw 30 _ rfl) (by decide) (rm_at l Z a0 hw [] (1 : Int32) (0 : Int32) (3 : Int32) h138 n0 Z142 (by decide)) e138 (L := #[.val (.ref a1), .val (.ref a3), .val (.ref a106), .val (.int (1 : Int32)), .val (.int (0 : Int32))]) (hb hby d4_25) (by rw [hml]; rfl) [.int (1 : Int32), .int (0 : Int32)] [.ref a106] rfl rfl pd_5 rfl 1 (by show 2 * 0 + _ ≤ _; exact Nat.le_of_eq rfl) (by decide) (by decide) (by decide) (by decide)
  obtain ⟨rfl, N144, hh144⟩ := hQ144
  have M144 := Fr.app N138 N144
  refine Go.via st144 ?_
  show Go p e below _ (T144.setTop (mkF m 28 #[.val (.ref a1), .val (.ref a3), .val (.ref a106), .val (.int (1 : Int32)), .val (.int (0 : Int32))] [.int (3 : Int32), .ref a106]))
  refine s_aloadN X144 hx (hb hby d4_28) rfl rfl 29 rfl ?_
  obtain ⟨T145, X145, e145, st145⟩ := getF X144 hx hZ hown (host := "") (Or.inl (wd hw 17 _ rfl)) Via.refl hh144 F139 (g := (mkF m 29 #[.val (.ref a1), .val (.ref a3), .val (.ref a106), .val (.int (1 : Int32)), .val (.int (0 : Int32))] [.ref a1, .int (3 : Int32), .ref a106])) rfl rfl (hb hby d4_29)
  refine Go.via st145 ?_
  show Go p e below _ (T145.setTop (mkF m 32 #[.val (.ref a1), .val (.ref a3), .val (.ref a106), .val (.int (1 : Int32)), .val (.int (0 : Int32))] [.ref a2, .int (3 : Int32), .ref a106]))
  refine s_iloadN X145 hx (hb hby d4_32) rfl 33 rfl ?_
  refine s_aloadN X145 hx (hb hby d4_33) rfl rfl 34 rfl ?_
  refine s_iload X145 hx (hb hby d4_34) rfl 36 rfl ?_
  obtain ⟨v146, T146, L146, X146, hQ146, st146⟩ := callStat X145 hx hZ hown (wd hw 31 _ rfl) (wd hw 32 _ rfl) (wd hw 10 _ rfl) (wd hw 33 _ rfl) (by decide) (rm_dot10 l Z a0 hw [] a2 a3 k2 k3 x0 x1 x2 x3 x4 x5 x6 x7 x8 y0 y1 y2 y3 y4 y5 y6 y7 y8 _ _ _ _ _ _ _ _ _ _ _ _ _ _ _ _ _ _ h138 n0 Z142 F140 F141 HX0 HX1 HX2 HX3 HX4 HX5 HX6 HX7 HX8 HY0 HY1 HY2 HY3 HY4 HY5 HY6 HY7 HY8) e145 (L := #[.val (.ref a1), .val (.ref a3), .val (.ref a106), .val (.int (1 : Int32)), .val (.int (0 : Int32))]) (hb hby d4_36) (by rw [hml]; rfl) [.ref a2, .int (1 : Int32), .ref a3, .int (0 : Int32)] [.int (3 : Int32), .ref a106] rfl rfl pd_6 rfl 2 (by show 2 * 0 + _ ≤ _; exact Nat.le_of_eq rfl) (by decide) (by decide) (by decide) (by decide)
  obtain ⟨d146, rfl, B146, N146, hh146⟩ := hQ146
  have M146 := Fr.app M144 N146
  refine Go.via st146 ?_
  show Go p e below _ (T146.setTop (mkF m 39 #[.val (.ref a1), .val (.ref a3), .val (.ref a106), .val (.int (1 : Int32)), .val (.int (0 : Int32))] [.double d146, .int (3 : Int32), .ref a106]))
  obtain ⟨T147, h147, X147, e147, W147, A147, st147⟩ := s_dastore X146 hx hZ hh146 A138 (hb hby d4_39) #[.val (.ref a1), .val (.ref a3), .val (.ref a106), .val (.int (1 : Int32)), .val (.int (0 : Int32))] [] (j := (3 : Int32)) 3 (by decide) (by show 3 < 9; decide) d146 [.double d119, .double d128, .double d137, .double d146, .double (0 : UInt64), .double (0 : UInt64), .double (0 : UInt64), .double (0 : UInt64), .double (0 : UInt64)] rfl 40 rfl
  have N147 := Fr.snoc X147 M146 q110
  have F148 := F139.other W147 (Or.inl ne107)
  have F149 := F140.other W147 ne108
  have F150 := F141.other W147 ne109
  have Z151 : n0 ≤ h147.size := by rw [W147.size]; exact Z142
  have K152 := K143.wr W147 (Or.inr q111)
  refine Go.via st147 ?_
  refine s_iinc X147 hx (hb hby d4_40) (1 : Int32) rfl rfl #[.val (.ref a1), .val (.ref a3), .val (.ref a106), .val (.int (1 : Int32)), .val (.int (1 : Int32))] rfl 43 rfl ?_
  refine s_goto X147 hx (hb hby d4_43) 15 (by decide) (by decide) ?_
  refine s_iload X147 hx (hb hby d4_15) rfl 17 rfl ?_
  refine s_iconst X147 hx (hb hby d4_17) (3 : Int32) rfl 18 rfl ?_
  refine s_icmpN X147 hx (hb hby d4_18) (by decide) 21 rfl ?_
  refine s_aloadN X147 hx (hb hby d4_21) rfl rfl 22 rfl ?_
  refine s_iloadN X147 hx (hb hby d4_22) rfl 23 rfl ?_
  refine s_iload X147 hx (hb hby d4_23) rfl 25 rfl ?_
  obtain ⟨v153, T153, L153, X153, hQ153, st153⟩ := callStat X147 hx hZ hown (wd hw 28 _ rfl) (wd hw 29 _ rfl) (wd hw 10 _ rfl) (wd hw 30 _ rfl) (by decide) (rm_at l Z a0 hw [] (1 : Int32) (1 : Int32) (4 : Int32) h147 n0 Z151 (by decide)) e147 (L := #[.val (.ref a1), .val (.ref a3), .val (.ref a106), .val (.int (1 : Int32)), .val (.int (1 : Int32))]) (hb hby d4_25) (by rw [hml]; rfl) [.int (1 : Int32), .int (1 : Int32)] [.ref a106] rfl rfl pd_5 rfl 1 (by show 2 * 0 + _ ≤ _; exact Nat.le_of_eq rfl) (by decide) (by decide) (by decide) (by decide)
  obtain ⟨rfl, N153, hh153⟩ := hQ153
  have M153 := Fr.app N147 N153
  refine Go.via st153 ?_
  show Go p e below _ (T153.setTop (mkF m 28 #[.val (.ref a1), .val (.ref a3), .val (.ref a106), .val (.int (1 : Int32)), .val (.int (1 : Int32))] [.int (4 : Int32), .ref a106]))
  refine s_aloadN X153 hx (hb hby d4_28) rfl rfl 29 rfl ?_
  obtain ⟨T154, X154, e154, st154⟩ := getF X153 hx hZ hown (host := "") (Or.inl (wd hw 17 _ rfl)) Via.refl hh153 F148 (g := (mkF m 29 #[.val (.ref a1), .val (.ref a3), .val (.ref a106), .val (.int (1 : Int32)), .val (.int (1 : Int32))] [.ref a1, .int (4 : Int32), .ref a106])) rfl rfl (hb hby d4_29)
  refine Go.via st154 ?_
  show Go p e below _ (T154.setTop (mkF m 32 #[.val (.ref a1), .val (.ref a3), .val (.ref a106), .val (.int (1 : Int32)), .val (.int (1 : Int32))] [.ref a2, .int (4 : Int32), .ref a106]))
  refine s_iloadN X154 hx (hb hby d4_32) rfl 33 rfl ?_
  refine s_aloadN X154 hx (hb hby d4_33) rfl rfl 34 rfl ?_
  refine s_iload X154 hx (hb hby d4_34) rfl 36 rfl ?_
  obtain ⟨v155, T155, L155, X155, hQ155, st155⟩ := callStat X154 hx hZ hown (wd hw 31 _ rfl) (wd hw 32 _ rfl) (wd hw 10 _ rfl) (wd hw 33 _ rfl) (by decide) (rm_dot11 l Z a0 hw [] a2 a3 k2 k3 x0 x1 x2 x3 x4 x5 x6 x7 x8 y0 y1 y2 y3 y4 y5 y6 y7 y8 _ _ _ _ _ _ _ _ _ _ _ _ _ _ _ _ _ _ h147 n0 Z151 F149 F150 HX0 HX1 HX2 HX3 HX4 HX5 HX6 HX7 HX8 HY0 HY1 HY2 HY3 HY4 HY5 HY6 HY7 HY8) e154 (L := #[.val (.ref a1), .val (.ref a3), .val (.ref a106), .val (.int (1 : Int32)), .val (.int (1 : Int32))]) (hb hby d4_36) (by rw [hml]; rfl) [.ref a2, .int (1 : Int32), .ref a3, .int (1 : Int32)] [.int (4 : Int32), .ref a106] rfl rfl pd_6 rfl 2 (by show 2 * 0 + _ ≤ _; exact Nat.le_of_eq rfl) (by decide) (by decide) (by decide) (by decide)
  obtain ⟨d155, rfl, B155, N155, hh155⟩ := hQ155
  have M155 := Fr.app M153 N155
  refine Go.via st155 ?_
  show Go p e below _ (T155.setTop (mkF m 39 #[.val (.ref a1), .val (.ref a3), .val (.ref a106), .val (.int (1 : Int32)), .val (.int (1 : Int32))] [.double d155, .int (4 : Int32), .ref a106]))
  obtain ⟨T156, h156, X156, e156, W156, A156, st156⟩ := s_dastore X155 hx hZ hh155 A147 (hb hby d4_39) #[.val (.ref a1), .val (.ref a3), .val (.ref a106), .val (.int (1 : Int32)), .val (.int (1 : Int32))] [] (j := (4 : Int32)) 4 (by decide) (by show 4 < 9; decide) d155 [.double d119, .double d128, .double d137, .double d146, .double d155, .double (0 : UInt64), .double (0 : UInt64), .double (0 : UInt64), .double (0 : UInt64)] rfl 40 rfl
  have N156 := Fr.snoc X156 M155 q110
  have F157 := F148.other W156 (Or.inl ne107)
  have F158 := F149.other W156 ne108
  have F159 := F150.other W156 ne109
  have Z160 : n0 ≤ h156.size := by rw [W156.size]; exact Z151
  have K161 := K152.wr W156 (Or.inr q111)
  refine Go.via st156 ?_
  refine s_iinc X156 hx (hb hby d4_40) (2 : Int32) rfl rfl #[.val (.ref a1), .val (.ref a3), .val (.ref a106), .val (.int (1 : Int32)), .val (.int (2 : Int32))] rfl 43 rfl ?_
  refine s_goto X156 hx (hb hby d4_43) 15 (by decide) (by decide) ?_
  refine s_iload X156 hx (hb hby d4_15) rfl 17 rfl ?_
  refine s_iconst X156 hx (hb hby d4_17) (3 : Int32) rfl 18 rfl ?_
  refine s_icmpN X156 hx (hb hby d4_18) (by decide) 21 rfl ?_
  refine s_aloadN X156 hx (hb hby d4_21) rfl rfl 22 rfl ?_
  refine s_iloadN X156 hx (hb hby d4_22) rfl 23 rfl ?_
  refine s_iload X156 hx (hb hby d4_23) rfl 25 rfl ?_
  obtain ⟨v162, T162, L162, X162, hQ162, st162⟩ := callStat X156 hx hZ hown (wd hw 28 _ rfl) (wd hw 29 _ rfl) (wd hw 10 _ rfl) (wd hw 30 _ rfl) (by decide) (rm_at l Z a0 hw [] (1 : Int32) (2 : Int32) (5 : Int32) h156 n0 Z160 (by decide)) e156 (L := #[.val (.ref a1), .val (.ref a3), .val (.ref a106), .val (.int (1 : Int32)), .val (.int (2 : Int32))]) (hb hby d4_25) (by rw [hml]; rfl) [.int (1 : Int32), .int (2 : Int32)] [.ref a106] rfl rfl pd_5 rfl 1 (by show 2 * 0 + _ ≤ _; exact Nat.le_of_eq rfl) (by decide) (by decide) (by decide) (by decide)
  obtain ⟨rfl, N162, hh162⟩ := hQ162
  have M162 := Fr.app N156 N162
  refine Go.via st162 ?_
  show Go p e below _ (T162.setTop (mkF m 28 #[.val (.ref a1), .val (.ref a3), .val (.ref a106), .val (.int (1 : Int32)), .val (.int (2 : Int32))] [.int (5 : Int32), .ref a106]))
  refine s_aloadN X162 hx (hb hby d4_28) rfl rfl 29 rfl ?_
  obtain ⟨T163, X163, e163, st163⟩ := getF X162 hx hZ hown (host := "") (Or.inl (wd hw 17 _ rfl)) Via.refl hh162 F157 (g := (mkF m 29 #[.val (.ref a1), .val (.ref a3), .val (.ref a106), .val (.int (1 : Int32)), .val (.int (2 : Int32))] [.ref a1, .int (5 : Int32), .ref a106])) rfl rfl (hb hby d4_29)
  refine Go.via st163 ?_
  show Go p e below _ (T163.setTop (mkF m 32 #[.val (.ref a1), .val (.ref a3), .val (.ref a106), .val (.int (1 : Int32)), .val (.int (2 : Int32))] [.ref a2, .int (5 : Int32), .ref a106]))
  refine s_iloadN X163 hx (hb hby d4_32) rfl 33 rfl ?_
  refine s_aloadN X163 hx (hb hby d4_33) rfl rfl 34 rfl ?_
  refine s_iload X163 hx (hb hby d4_34) rfl 36 rfl ?_
  obtain ⟨v164, T164, L164, X164, hQ164, st164⟩ := callStat X163 hx hZ hown (wd hw 31 _ rfl) (wd hw 32 _ rfl) (wd hw 10 _ rfl) (wd hw 33 _ rfl) (by decide) (rm_dot12 l Z a0 hw [] a2 a3 k2 k3 x0 x1 x2 x3 x4 x5 x6 x7 x8 y0 y1 y2 y3 y4 y5 y6 y7 y8 _ _ _ _ _ _ _ _ _ _ _ _ _ _ _ _ _ _ h156 n0 Z160 F158 F159 HX0 HX1 HX2 HX3 HX4 HX5 HX6 HX7 HX8 HY0 HY1 HY2 HY3 HY4 HY5 HY6 HY7 HY8) e163 (L := #[.val (.ref a1), .val (.ref a3), .val (.ref a106), .val (.int (1 : Int32)), .val (.int (2 : Int32))]) (hb hby d4_36) (by rw [hml]; rfl) [.ref a2, .int (1 : Int32), .ref a3, .int (2 : Int32)] [.int (5 : Int32), .ref a106] rfl rfl pd_6 rfl 2 (by show 2 * 0 + _ ≤ _; exact Nat.le_of_eq rfl) (by decide) (by decide) (by decide) (by decide)
  obtain ⟨d164, rfl, B164, N164, hh164⟩ := hQ164
  have M164 := Fr.app M162 N164
  refine Go.via st164 ?_
  show Go p e below _ (T164.setTop (mkF m 39 #[.val (.ref a1), .val (.ref a3), .val (.ref a106), .val (.int (1 : Int32)), .val (.int (2 : Int32))] [.double d164, .int (5 : Int32), .ref a106]))
  obtain ⟨T165, h165, X165, e165, W165, A165, st165⟩ := s_dastore X164 hx hZ hh164 A156 (hb hby d4_39) #[.val (.ref a1), .val (.ref a3), .val (.ref a106), .val (.int (1 : Int32)), .val (.int (2 : Int32))] [] (j := (5 : Int32)) 5 (by decide) (by show 5 < 9; decide) d164 [.double d119, .double d128, .double d137, .double d146, .double d155, .double d164, .double (0 : UInt64), .double (0 : UInt64), .double (0 : UInt64)] rfl 40 rfl
  have N165 := Fr.snoc X165 M164 q110
  have F166 := F157.other W165 (Or.inl ne107)
  have F167 := F158.other W165 ne108
  have F168 := F159.other W165 ne109
  have Z169 : n0 ≤ h165.size := by rw [W165.size]; exact Z160
  have K170 := K161.wr W165 (Or.inr q111)
  refine Go.via st165 ?_
  refine s_iinc X165 hx (hb hby d4_40) (3 : Int32) rfl rfl #[.val (.ref a1), .val (.ref a3), .val (.ref a106), .val (.int (1 : Int32)), .val (.int (3 : Int32))] rfl 43 rfl ?_
  refine s_goto X165 hx (hb hby d4_43) 15 (by decide) (by decide) ?_
  refine s_iload X165 hx (hb hby d4_15) rfl 17 rfl ?_
  refine s_iconst X165 hx (hb hby d4_17) (3 : Int32) rfl 18 rfl ?_
  refine s_icmpY X165 hx (hb hby d4_18) (by decide) 46 (by decide) (by decide) ?_
  refine s_iinc X165 hx (hb hby d4_46) (2 : Int32) rfl rfl #[.val (.ref a1), .val (.ref a3), .val (.ref a106), .val (.int (2 : Int32)), .val (.int (3 : Int32))] rfl 49 rfl ?_
  refine s_goto X165 hx (hb hby d4_49) 7 (by decide) (by decide) ?_
  refine s_iloadN X165 hx (hb hby d4_7) rfl 8 rfl ?_
  refine s_iconst X165 hx (hb hby d4_8) (3 : Int32) rfl 9 rfl ?_
  refine s_icmpN X165 hx (hb hby d4_9) (by decide) 12 rfl ?_
  refine s_iconst X165 hx (hb hby d4_12) (0 : Int32) rfl 13 rfl ?_
  refine s_istore X165 hx (hb hby d4_13) #[.val (.ref a1), .val (.ref a3), .val (.ref a106), .val (.int (2 : Int32)), .val (.int (0 : Int32))] rfl 15 rfl ?_
  refine s_iload X165 hx (hb hby d4_15) rfl 17 rfl ?_
  refine s_iconst X165 hx (hb hby d4_17) (3 : Int32) rfl 18 rfl ?_
  refine s_icmpN X165 hx (hb hby d4_18) (by decide) 21 rfl ?_
  refine s_aloadN X165 hx (hb hby d4_21) rfl rfl 22 rfl ?_
  refine s_iloadN X165 hx (hb hby d4_22) rfl 23 rfl ?_
  refine s_iload X165 hx (hb hby d4_23) rfl 25 rfl ?_
  obtain ⟨v171, T171, L171, X171, hQ171, st171⟩ := callStat X165 hx hZ hown (wd hw 28 _ rfl) (wd hw 29 _ rfl) (wd hw 10 _ rfl) (wd hw 30 _ rfl) (by decide) (rm_at l Z a0 hw [] (2 : Int32) (0 : Int32) (6 : Int32) h165 n0 Z169 (by decide)) e165 (L := #[.val (.ref a1), .val (.ref a3), .val (.ref a106), .val (.int (2 : Int32)), .val (.int (0 : Int32))]) (hb hby d4_25) (by rw [hml]; rfl) [.int (2 : Int32), .int (0 : Int32)] [.ref a106] rfl rfl pd_5 rfl 1 (by show 2 * 0 + _ ≤ _; exact Nat.le_of_eq rfl) (by decide) (by decide) (by decide) (by decide)
  obtain ⟨rfl, N171, hh171⟩ := hQ171
  have M171 := Fr.app N165 N171
  refine Go.via st171 ?_
  show Go p e below _ (T171.setTop (mkF m 28 #[.val (.ref a1), .val (.ref a3), .val (.ref a106), .val (.int (2 : Int32)), .val (.int (0 : Int32))] [.int (6 : Int32), .ref a106]))
  refine s_aloadN X171 hx (hb hby d4_28) rfl rfl 29 rfl ?_
  obtain ⟨T172, X172, e172, st172⟩ := getF X171 hx hZ hown (host := "") (Or.inl (wd hw 17 _ rfl)) Via.refl hh171 F166 (g := (mkF m 29 #[.val (.ref a1), .val (.ref a3), .val (.ref a106), .val (.int (2 : Int32)), .val (.int (0 : Int32))] [.ref a1, .int (6 : Int32), .ref a106])) rfl rfl (hb hby d4_29)
  refine Go.via st172 ?_
  show Go p e below _ (T172.setTop (mkF m 32 #[.val (.ref a1), .val (.ref a3), .val (.ref a106), .val (.int (2 : Int32)), .val (.int (0 : Int32))] [.ref a2, .int (6 : Int32), .ref a106]))
  refine s_iloadN X172 hx (hb hby d4_32) rfl 33 rfl ?_
  refine s_aloadN X172 hx (hb hby d4_33) rfl rfl 34 rfl ?_
  refine s_iload X172 hx (hb hby d4_34) rfl 36 rfl ?_
  obtain ⟨v173, T173, L173, X173, hQ173, st173⟩ := callStat X172 hx hZ hown (wd hw 31 _ rfl) (wd hw 32 _ rfl) (wd hw 10 _ rfl) (wd hw 33 _ rfl) (by decide) (rm_dot20 l Z a0 hw [] a2 a3 k2 k3 x0 x1 x2 x3 x4 x5 x6 x7 x8 y0 y1 y2 y3 y4 y5 y6 y7 y8 _ _ _ _ _ _ _ _ _ _ _ _ _ _ _ _ _ _ h165 n0 Z169 F167 F168 HX0 HX1 HX2 HX3 HX4 HX5 HX6 HX7 HX8 HY0 HY1 HY2 HY3 HY4 HY5 HY6 HY7 HY8) e172 (L := #[.val (.ref a1), .val (.ref a3), .val (.ref a106), .val (.int (2 : Int32)), .val (.int (0 : Int32))]) (hb hby d4_36) (by rw [hml]; rfl) [.ref a2, .int (2 : Int32), .ref a3, .int (0 : Int32)] [.int (6 : Int32), .ref a106] rfl rfl pd_6 rfl 2 (by show 2 * 0 + _ ≤ _; exact Nat.le_of_eq rfl) (by decide) (by decide) (by decide) (by decide)
  obtain ⟨d173, rfl, B173, N173, hh173⟩ := hQ173
  have M173 := Fr.app M171 N173
  refine Go.via st173 ?_
  show Go p e below _ (T173.setTop (mkF m 39 #[.val (.ref a1), .val (.ref a3), .val (.ref a106), .val (.int (2 : Int32)), .val (.int (0 : Int32))] [.double d173, .int (6 : Int32), .ref a106]))
  obtain ⟨T174, h174, X174, e174, W174, A174, st174⟩ := s_dastore X173 hx hZ hh173 A165 (hb hby d4_39) #[.val (.ref a1), .val (.ref a3), .val (.ref a106), .val (.int (2 : Int32)), .val (.int (0 : Int32))] [] (j := (6 : Int32)) 6 (by decide) (by show 6 < 9; decide) d173 [.double d119, .double d128, .double d137, .double d146, .double d155, .double d164, .double d173, .double (0 : UInt64), .double (0 : UInt64)] rfl 40 rfl
  have N174 := Fr.snoc X174 M173 q110
  have F175 := F166.other W174 (Or.inl ne107)
  have F176 := F167.other W174 ne108
  have F177 := F168.other W174 ne109
  have Z178 : n0 ≤ h174.size := by rw [W174.size]; exact Z169
  have K179 := K170.wr W174 (Or.inr q111)
  refine Go.via st174 ?_
  refine s_iinc X174 hx (hb hby d4_40) (1 : Int32) rfl rfl #[.val (.ref a1), .val (.ref a3), .val (.ref a106), .val (.int (2 : Int32)), .val (.int (1 : Int32))] rfl 43 rfl ?_
  refine s_goto X174 hx (hb hby d4_43) 15 (by decide) (by decide) ?_
  refine s_iload X174 hx (hb hby d4_15) rfl 17 rfl ?_
  refine s_iconst X174 hx (hb hby d4_17) (3 : Int32) rfl 18 rfl ?_
  refine s_icmpN X174 hx (hb hby d4_18) (by decide) 21 rfl ?_
  refine s_aloadN X174 hx (hb hby d4_21) rfl rfl 22 rfl ?_
  refine s_iloadN X174 hx (hb hby d4_22) rfl 23 rfl ?_
  refine s_iload X174 hx (hb hby d4_23) rfl 25 rfl ?_
  obtain ⟨v180, T180, L180, X180, hQ180, st180⟩ := callStat X174 hx hZ hown (wd hw 28 _ rfl) (wd hw 29 _ rfl) (wd hw 10 _ rfl) (wd hw 30 _ rfl) (by decide) (rm_at l Z a0 hw [] (2 : Int32) (1 : Int32) (7 : Int32) h174 n0 Z178 (by decide)) e174 (L := #[.val (.ref a1), .val (.ref a3), .val (.ref a106), .val (.int (2 : Int32)), .val (.int (1 : Int32))]) (hb hby d4_25) (by rw [hml]; rfl) [.int (2 : Int32), .int (1 : Int32)] [.ref a106] rfl rfl pd_5 rfl 1 (by show 2 * 0 + _ ≤ _; exact Nat.le_of_eq rfl) (by decide) (by decide) (by decide) (by decide)
  obtain ⟨rfl, N180, hh180⟩ := hQ180
  have M180 := Fr.app N174 N180
  refine Go.via st180 ?_
  show Go p e below _ (T180.setTop (mkF m 28 #[.val (.ref a1), .val (.ref a3), .val (.ref a106), .val (.int (2 : Int32)), .val (.int (1 : Int32))] [.int (7 : Int32), .ref a106]))
  refine s_aloadN X180 hx (hb hby d4_28) rfl rfl 29 rfl ?_
  obtain ⟨T181, X181, e181, st181⟩ := getF X180 hx hZ hown (host := "") (Or.inl (wd hw 17 _ rfl)) Via.refl hh180 F175 (g := (mkF m 29 #[.val (.ref a1), .val (.ref a3), .val (.ref a106), .val (.int (2 : Int32)), .val (.int (1 : Int32))] [.ref a1, .int (7 : Int32), .ref a106])) rfl rfl (hb hby d4_29)
  refine Go.via st181 ?_
  show Go p e below _ (T181.setTop (mkF m 32 #[.val (.ref a1), .val (.ref a3), .val (.ref a106), .val (.int (2 : Int32)), .val (.int (1 : Int32))] [.ref a2, .int (7 : Int32), .ref a106]))
  refine s_iloadN X181 hx (hb hby d4_32) rfl 33 rfl ?_
  refine s_aloadN X181 hx (hb hby d4_33) rfl rfl 34 rfl ?_
  refine s_iload X181 hx (hb hby d4_34) rfl 36 rfl ?_
  obtain ⟨v182, T182, L182, X182, hQ182, st182⟩ := callStat X181 hx hZ hown (wd hw 31 _ rfl) (wd hw 32 _ rfl) (wd hw 10 _ rfl) (wd hw 33 _ rfl) (by decide) (rm_dot21 l Z a0 hw [] a2 a3 k2 k3 x0 x1 x2 x3 x4 x5 x6 x7 x8 y0 y1 y2 y3 y4 y5 y6 y7 y8 _ _ _ _ _ _ _ _ _ _ _ _ _ _ _ _ _ _ h174 n0 Z178 F176 F177 HX0 HX1 HX2 HX3 HX4 HX5 HX6 HX7 HX8 HY0 HY1 HY2 HY3 HY4 HY5 HY6 HY7 HY8) e181 (L := #[.val (.ref a1), .val (.ref a3), .val (.ref a106), .val (.int (2 : Int32)), .val (.int (1 : Int32))]) (hb hby d4_36) (by rw [hml]; rfl) [.ref a2, .int (2 : Int32), .ref a3, .int (1 : Int32)] [.int (7 : Int32), .ref a106] rfl rfl pd_6 rfl 2 (by show 2 * 0 + _ ≤ _; exact Nat.le_of_eq rfl) (by decide) (by decide) (by decide) (by decide)
  obtain ⟨d182, rfl, B182, N182, hh182⟩ := hQ182
  have M182 := Fr.app M180 N182
  refine Go.via st182 ?_
  show Go p e below _ (T182.setTop (mkF m 39 #[.val (.ref a1), .val (.ref a3), .val (.ref a106), .val (.int (2 : Int32)), .val (.int (1 : Int32))] [.double d182, .int (7 : Int32), .ref a106]))
  obtain ⟨T183, h183, X183, e183, W183, A183, st183⟩ := s_dastore X182 hx hZ hh182 A174 (hb hby d4_39) #[.val (.ref a1), .val (.ref a3), .val (.ref a106), .val (.int (2 : Int32)), .val (.int (1 : Int32))] [] (j := (7 : Int32)) 7 (by decide) (by show 7 < 9; decide) d182 [.double d119, .double d128, .double d137, .double d146, .double d155, .double d164, .double d173, .double d182, .double (0 : UInt64)] rfl 40 rfl
  have N183 := Fr.snoc X183 M182 q110
  have F184 := F175.other W183 (Or.inl ne107)
  have F185 := F176.other W183 ne108
  have F186 := F177.other W183 ne109
  have Z187 : n0 ≤ h183.size := by rw [W183.size]; exact Z178
  have K188 := K179.wr W183 (Or.inr q111)
  refine Go.via st183 ?_
  refine s_iinc X183 hx (hb hby d4_40) (2 : Int32) rfl rfl #[.val (.ref a1), .val (.ref a3), .val (.ref a106), .val (.int (2 : Int32)), .val (.int (2 : Int32))] rfl 43 rfl ?_
  refine s_goto X183 hx (hb hby d4_43) 15 (by decide) (by decide) ?_
  refine s_iload X183 hx (hb hby d4_15) rfl 17 rfl ?_
  refine s_iconst X183 hx (hb hby d4_17) (3 : Int32) rfl 18 rfl ?_
  refine s_icmpN X183 hx (hb hby d4_18) (by decide) 21 rfl ?_
  refine s_aloadN X183 hx (hb hby d4_21) rfl rfl 22 rfl ?_
  refine s_iloadN X183 hx (hb hby d4_22) rfl 23 rfl ?_
  refine s_iload X183 hx (hb hby d4_23) rfl 25 rfl ?_
  obtain ⟨v189, T189, L189, X189, hQ189, st189⟩ := callStat X183 hx hZ hown (wd hw 28 _ rfl) (wd hw 29 _ rfl) (wd hw 10 _ rfl) (wd hw 30 _ rfl) (by decide) (rm_at l Z a0 hw [] (2 : Int32) (2 : Int32) (8 : Int32) h183 n0 Z187 (by decide)) e183 (L := #[.val (.ref a1), .val (.ref a3), .val (.ref a106), .val (.int (2 : Int32)), .val (.int (2 : Int32))]) (hb hby d4_25) (by rw [hml]; rfl) [.int (2 : Int32), .int (2 : Int32)] [.ref a106] rfl rfl pd_5 rfl 1 (by show 2 * 0 + _ ≤ _; exact Nat.le_of_eq rfl) (by decide) (by decide) (by decide) (by decide)
  obtain ⟨rfl, N189, hh189⟩ := hQ189
  have M189 := Fr.app N183 N189
  refine Go.via st189 ?_
  show Go p e below _ (T189.setTop (mkF m 28 #[.val (.ref a1), .val (.ref a3), .val (.ref a106), .val (.int (2 : Int32)), .val (.int (2 : Int32))] [.int (8 : Int32), .ref a106]))
  refine s_aloadN X189 hx (hb hby d4_28) rfl rfl 29 rfl ?_
  obtain ⟨T190, X190, e190, st190⟩ := getF X189 hx hZ hown (host := "") (Or.inl (wd hw 17 _ rfl)) Via.refl hh189 F184 (g := (mkF m 29 #[.val (.ref a1), .val (.ref a3), .val (.ref a106), .val (.int (2 : Int32)), .val (.int (2 : Int32))] [.ref a1, .int (8 : Int32), .ref a106])) rfl rfl (hb hby d4_29)
  refine Go.via st190 ?_
  show Go p e below _ (T190.setTop (mkF m 32 #[.val (.ref a1), .val (.ref a3), .val (.ref a106), .val (.int (2 : Int32)), .val (.int (2 : Int32))] [.ref a2, .int (8 : Int32), .ref a106]))
  refine s_iloadN X190 hx (hb hby d4_32) rfl 33 rfl ?_
  refine s_aloadN X190 hx (hb hby d4_33) rfl rfl 34 rfl ?_
  refine s_iload X190 hx (hb hby d4_34) rfl 36 rfl ?_
  obtain ⟨v191, T191, L191, X191, hQ191, st191⟩ := callStat X190 hx hZ hown (wd hw 31 _ rfl) (wd hw 32 _ rfl) (wd hw 10 _ rfl) (wd hw 33 _ rfl) (by decide) (rm_dot22 l Z a0 hw [] a2 a3 k2 k3 x0 x1 x2 x3 x4 x5 x6 x7 x8 y0 y1 y2 y3 y4 y5 y6 y7 y8 _ _ _ _ _ _ _ _ _ _ _ _ _ _ _ _ _ _ h183 n0 Z187 F185 F186 HX0 HX1 HX2 HX3 HX4 HX5 HX6 HX7 HX8 HY0 HY1 HY2 HY3 HY4 HY5 HY6 HY7 HY8) e190 (L := #[.val (.ref a1), .val (.ref a3), .val (.ref a106), .val (.int (2 : Int32)), .val (.int (2 : Int32))]) (hb hby d4_36) (by rw [hml]; rfl) [.ref a2, .int (2 : Int32), .ref a3, .int (2 : Int32)] [.int (8 : Int32), .ref a106] rfl rfl pd_6 rfl 2 (by show 2 * 0 + _ ≤ _; exact Nat.le_of_eq rfl) (by decide) (by decide) (by decide) (by decide)
  obtain ⟨d191, rfl, B191, N191, hh191⟩ := hQ191
  have M191 := Fr.app M189 N191
  refine Go.via st191 ?_
  show Go p e below _ (T191.setTop (mkF m 39 #[.val (.ref a1), .val (.ref a3), .val (.ref a106), .val (.int (2 : Int32)), .val (.int (2 : Int32))] [.double d191, .int (8 : Int32), .ref a106]))
  obtain ⟨T192, h192, X192, e192, W192, A192, st192⟩ := s_dastore X191 hx hZ hh191 A183 (hb hby d4_39) #[.val (.ref a1), .val (.ref a3), .val (.ref a106), .val (.int (2 : Int32)), .val (.int (2 : Int32))] [] (j := (8 : Int32)) 8 (by decide) (by show 8 < 9; decide) d191 [.double d119, .double d128, .double d137, .double d146, .double d155, .double d164, .double d173, .double d182, .double d191] rfl 40 rfl
  have N192 := Fr.snoc X192 M191 q110
  have F193 := F184.other W192 (Or.inl ne107)
  have F194 := F185.other W192 ne108
  have F195 := F186.other W192 ne109
  have Z196 : n0 ≤ h192.size := by rw [W192.size]; exact Z187
  have K197 := K188.wr W192 (Or.inr q111)
  refine Go.via st192 ?_
  refine s_iinc X192 hx (hb hby d4_40) (3 : Int32) rfl rfl #[.val (.ref a1), .val (.ref a3), .val (.ref a106), .val (.int (2 : Int32)), .val (.int (3 : Int32))] rfl 43 rfl ?_
  refine s_goto X192 hx (hb hby d4_43) 15 (by decide) (by decide) ?_
  refine s_iload X192 hx (hb hby d4_15) rfl 17 rfl ?_
  refine s_iconst X192 hx (hb hby d4_17) (3 : Int32) rfl 18 rfl ?_
  refine s_icmpY X192 hx (hb hby d4_18) (by decide) 46 (by decide) (by decide) ?_
  refine s_iinc X192 hx (hb hby d4_46) (3 : Int32) rfl rfl #[.val (.ref a1), .val (.ref a3), .val (.ref a106), .val (.int (3 : Int32)), .val (.int (3 : Int32))] rfl 49 rfl ?_
  refine s_goto X192 hx (hb hby d4_49) 7 (by decide) (by decide) ?_
  refine s_iloadN X192 hx (hb hby d4_7) rfl 8 rfl ?_
  refine s_iconst X192 hx (hb hby d4_8) (3 : Int32) rfl 9 rfl ?_
  refine s_icmpY X192 hx (hb hby d4_9) (by decide) 52 (by decide) (by decide) ?_
  obtain ⟨T198, h198, X198, e198, E198, A198, D198, -, st198⟩ := newO X192 hx hZ hown (wd hw 34 _ rfl) (wd hw 9 _ rfl) (wd hw 10 _ rfl) e192 (g := (mkF m 52 #[.val (.ref a1), .val (.ref a3), .val (.ref a106), .val (.int (3 : Int32)), .val (.int (3 : Int32))] [])) rfl (hb hby d4_52) (by decide) (by decide)
  obtain ⟨a198, g198⟩ : ∃ z, z = h192.size := ⟨_, rfl⟩
  rw [← g198] at A198 D198 st198
  have ne199 : a1 ≠ a198 := by rw [g198]; exact Nat.ne_of_lt F193.lt
  have ne200 : a2 ≠ a198 := by rw [g198]; exact Nat.ne_of_lt F194.lt
  have ne201 : a3 ≠ a198 := by rw [g198]; exact Nat.ne_of_lt F195.lt
  have ne202 : a106 ≠ a198 := by rw [g198]; exact Nat.ne_of_lt A192.lt
  have q203 : n0 ≤ a198 := by rw [g198]; exact Z196
  have q204 : h0.size ≤ a198 := by rw [g198]; exact K197.1
  have K205 := K197.ext E198
  have F206 := F193.ext E198
  have F207 := F194.ext E198
  have F208 := F195.ext E198
  have F209 := A192.ext E198
  have Z210 := Nat.le_trans Z196 E198.1
  have F211 : Fld Z h198 a198 "com/example/twelvefold/twelvefold/FrameTransformMatrix" "elements" "[D" (.null) := D198 (Or.inr (wd hw 18 _ rfl)) (ty := .array .double) (by decide)
  refine Go.via st198 ?_
  show Go p e below _ (T198.setTop (mkF m 55 #[.val (.ref a1), .val (.ref a3), .val (.ref a106), .val (.int (3 : Int32)), .val (.int (3 : Int32))] [.ref a198]))
  refine s_dup X198 hx (hb hby d4_55) rfl 56 rfl ?_
  refine s_aloadN X198 hx (hb hby d4_56) rfl rfl 57 rfl ?_
  obtain ⟨v212, T212, L212, X212, hQ212, st212⟩ := callInit X198 hx hZ hown rfl (wd hw 35 _ rfl) (wd hw 12 _ rfl) (wd hw 10 _ rfl) (wd hw 13 _ rfl) (by decide) (rm_init l Z a0 hw [] a198 a106 h198 n0 Z210 A198 q203 F211 ) e198 (L := #[.val (.ref a1), .val (.ref a3), .val (.ref a106), .val (.int (3 : Int32)), .val (.int (3 : Int32))]) (hb hby d4_57) (by rw [hml]; rfl) a198 [.ref a106] [.ref a198] rfl rfl pd_1 rfl 1 (by show 2 * 0 + _ ≤ _; exact Nat.le_of_eq rfl) (by decide) (by decide) (by decide) (by decide)
  obtain ⟨rfl, N212, K212, G212_0⟩ := hQ212
  have M212 := Fr.app N192 N212
  have F213 := F206.keep K212 (ninS ne199 nin0)
  have F214 := F207.keep K212 (ninS ne200 nin0)
  have F215 := F208.keep K212 (ninS ne201 nin0)
  have F216 := F209.keep K212 (ninS ne202 nin0)
  have F217 := A198.keep K212
  have Z218 := Nat.le_trans Z210 K212.1
  have K219 := K205.trans K212 (allS (Or.inr q204) all0)
  have e212 : T212.heap = T212.heap := rfl
  refine Go.via st212 ?_
  show Go p e below _ (T212.setTop (mkF m 60 #[.val (.ref a1), .val (.ref a3), .val (.ref a106), .val (.int (3 : Int32)), .val (.int (3 : Int32))] [.ref a198]))
  exact retA X212 hx hlk hret (by decide) rfl (hb hby d4_60) e212 ⟨a198, a106, c106, _, _, _, _, _, _, _, _, _, rfl, M212, K219, q204, q111, ne202, G212_0, F216, B119, B128, B137, B146, B155, B164, B173, B182, B191⟩ (by decide) (by decide)
theorem d3_0 : decode prog_6_method_9_code 0 = .ok (.aload_n 1, 1) := by decide +kernel
theorem d3_1 : decode prog_6_method_9_code 1 = .ok (.getfield 7, 3) := by decide +kernel
theorem d3_4 : decode prog_6_method_9_code 4 = .ok (.astore_n 2, 1) := by decide +kernel
theorem d3_5 : decode prog_6_method_9_code 5 = .ok (.aload_n 0, 1) := by decide +kernel
theorem d3_6 : decode prog_6_method_9_code 6 = .ok (.bipush 9, 2) := by decide +kernel
theorem d3_8 : decode prog_6_method_9_code 8 = .ok (.newarray .double, 2) := by decide +kernel
theorem d3_10 : decode prog_6_method_9_code 10 = .ok (.dup, 1) := by decide +kernel
theorem d3_11 : decode prog_6_method_9_code 11 = .ok (.iconst 0, 1) := by decide +kernel
theorem d3_12 : decode prog_6_method_9_code 12 = .ok (.aload_n 2, 1) := by decide +kernel
theorem d3_13 : decode prog_6_method_9_code 13 = .ok (.iconst 0, 1) := by decide +kernel
theorem d3_14 : decode prog_6_method_9_code 14 = .ok (.daload, 1) := by decide +kernel
theorem d3_15 : decode prog_6_method_9_code 15 = .ok (.dastore, 1) := by decide +kernel
theorem d3_16 : decode prog_6_method_9_code 16 = .ok (.dup, 1) := by decide +kernel
theorem d3_17 : decode prog_6_method_9_code 17 = .ok (.iconst 1, 1) := by decide +kernel
theorem d3_18 : decode prog_6_method_9_code 18 = .ok (.aload_n 2, 1) := by decide +kernel
theorem d3_19 : decode prog_6_method_9_code 19 = .ok (.iconst 3, 1) := by decide +kernel
theorem d3_20 : decode prog_6_method_9_code 20 = .ok (.daload, 1) := by decide +kernel
theorem d3_21 : decode prog_6_method_9_code 21 = .ok (.dastore, 1) := by decide +kernel
theorem d3_22 : decode prog_6_method_9_code 22 = .ok (.dup, 1) := by decide +kernel
theorem d3_23 : decode prog_6_method_9_code 23 = .ok (.iconst 2, 1) := by decide +kernel
theorem d3_24 : decode prog_6_method_9_code 24 = .ok (.aload_n 2, 1) := by decide +kernel
theorem d3_25 : decode prog_6_method_9_code 25 = .ok (.bipush 6, 2) := by decide +kernel
theorem d3_27 : decode prog_6_method_9_code 27 = .ok (.daload, 1) := by decide +kernel
theorem d3_28 : decode prog_6_method_9_code 28 = .ok (.dastore, 1) := by decide +kernel
theorem d3_29 : decode prog_6_method_9_code 29 = .ok (.dup, 1) := by decide +kernel
theorem d3_30 : decode prog_6_method_9_code 30 = .ok (.iconst 3, 1) := by decide +kernel
theorem d3_31 : decode prog_6_method_9_code 31 = .ok (.aload_n 2, 1) := by decide +kernel
theorem d3_32 : decode prog_6_method_9_code 32 = .ok (.iconst 1, 1) := by decide +kernel
theorem d3_33 : decode prog_6_method_9_code 33 = .ok (.daload, 1) := by decide +kernel
theorem d3_34 : decode prog_6_method_9_code 34 = .ok (.dastore, 1) := by decide +kernel
theorem d3_35 : decode prog_6_method_9_code 35 = .ok (.dup, 1) := by decide +kernel
theorem d3_36 : decode prog_6_method_9_code 36 = .ok (.iconst 4, 1) := by decide +kernel
theorem d3_37 : decode prog_6_method_9_code 37 = .ok (.aload_n 2, 1) := by decide +kernel
theorem d3_38 : decode prog_6_method_9_code 38 = .ok (.iconst 4, 1) := by decide +kernel
theorem d3_39 : decode prog_6_method_9_code 39 = .ok (.daload, 1) := by decide +kernel
theorem d3_40 : decode prog_6_method_9_code 40 = .ok (.dastore, 1) := by decide +kernel
theorem d3_41 : decode prog_6_method_9_code 41 = .ok (.dup, 1) := by decide +kernel
theorem d3_42 : decode prog_6_method_9_code 42 = .ok (.iconst 5, 1) := by decide +kernel
theorem d3_43 : decode prog_6_method_9_code 43 = .ok (.aload_n 2, 1) := by decide +kernel
theorem d3_44 : decode prog_6_method_9_code 44 = .ok (.bipush 7, 2) := by decide +kernel
theorem d3_46 : decode prog_6_method_9_code 46 = .ok (.daload, 1) := by decide +kernel
theorem d3_47 : decode prog_6_method_9_code 47 = .ok (.dastore, 1) := by decide +kernel
theorem d3_48 : decode prog_6_method_9_code 48 = .ok (.dup, 1) := by decide +kernel
theorem d3_49 : decode prog_6_method_9_code 49 = .ok (.bipush 6, 2) := by decide +kernel
theorem d3_51 : decode prog_6_method_9_code 51 = .ok (.aload_n 2, 1) := by decide +kernel
theorem d3_52 : decode prog_6_method_9_code 52 = .ok (.iconst 2, 1) := by decide +kernel
theorem d3_53 : decode prog_6_method_9_code 53 = .ok (.daload, 1) := by decide +kernel
theorem d3_54 : decode prog_6_method_9_code 54 = .ok (.dastore, 1) := by decide +kernel
theorem d3_55 : decode prog_6_method_9_code 55 = .ok (.dup, 1) := by decide +kernel
theorem d3_56 : decode prog_6_method_9_code 56 = .ok (.bipush 7, 2) := by decide +kernel
theorem d3_58 : decode prog_6_method_9_code 58 = .ok (.aload_n 2, 1) := by decide +kernel
theorem d3_59 : decode prog_6_method_9_code 59 = .ok (.iconst 5, 1) := by decide +kernel
theorem d3_60 : decode prog_6_method_9_code 60 = .ok (.daload, 1) := by decide +kernel
theorem d3_61 : decode prog_6_method_9_code 61 = .ok (.dastore, 1) := by decide +kernel
theorem d3_62 : decode prog_6_method_9_code 62 = .ok (.dup, 1) := by decide +kernel
theorem d3_63 : decode prog_6_method_9_code 63 = .ok (.bipush 8, 2) := by decide +kernel
theorem d3_65 : decode prog_6_method_9_code 65 = .ok (.aload_n 2, 1) := by decide +kernel
theorem d3_66 : decode prog_6_method_9_code 66 = .ok (.bipush 8, 2) := by decide +kernel
theorem d3_68 : decode prog_6_method_9_code 68 = .ok (.daload, 1) := by decide +kernel
theorem d3_69 : decode prog_6_method_9_code 69 = .ok (.dastore, 1) := by decide +kernel
theorem d3_70 : decode prog_6_method_9_code 70 = .ok (.invokevirtual 46, 3) := by decide +kernel
theorem d3_73 : decode prog_6_method_9_code 73 = .ok (.areturn, 1) := by decide +kernel
theorem pd_3 : parseMethodDescriptor "(Lcom/example/twelvefold/twelvefold/FrameTransformMatrix;)Lcom/example/twelvefold/twelvefold/FrameTransformMatrix;" = some ⟨[.object "com/example/twelvefold/twelvefold/FrameTransformMatrix"], some (.object "com/example/twelvefold/twelvefold/FrameTransformMatrix")⟩ := by decide +kernel
theorem pn_3 : plainFor (⟨"com/example/twelvefold/twelvefold/FrameTransformMatrix", "times", "(Lcom/example/twelvefold/twelvefold/FrameTransformMatrix;)Lcom/example/twelvefold/twelvefold/FrameTransformMatrix;"⟩ : MethodName) = true := plainFor_of_name (by show plainName "com/example/twelvefold/twelvefold/FrameTransformMatrix" = true; first | (simp [plainName, overriddenIn]; done) | decide +kernel)
set_option maxRecDepth 65536 in
set_option maxHeartbeats 40000000 in
theorem rm_times (l : Launch) (Z : State) (a0 : Array Value) (hw : ∀ d ∈ tables_1, d.before a0 Z = true) (ws : List Jvm.Cond) (a1 a2 a3 a4 : Addr) (k2 k4 : ClassId) (x0 x1 x2 x3 x4 x5 x6 x7 x8 y0 y1 y2 y3 y4 y5 y6 y7 y8 : UInt64) (U0 U1 U2 U3 U4 U5 U6 U7 U8 W0 W1 W2 W3 W4 W5 W6 W7 W8 : Int) (h0 : Heap) (n0 : Nat) (Z0 : n0 ≤ h0.size) (E1 : Exa Z h0 a1 "com/example/twelvefold/twelvefold/FrameTransformMatrix") (F_1 : Fld Z h0 a1 "com/example/twelvefold/twelvefold/FrameTransformMatrix" "elements" "[D" (.ref a2)) (A2 : AR Z h0 a2 k2 .double [.double x0, .double x1, .double x2, .double x3, .double x4, .double x5, .double x6, .double x7, .double x8]) (F_3 : Fld Z h0 a3 "com/example/twelvefold/twelvefold/FrameTransformMatrix" "elements" "[D" (.ref a4)) (A4 : AR Z h0 a4 k4 .double [.double y0, .double y1, .double y2, .double y3, .double y4, .double y5, .double y6, .double y7, .double y8]) (HX0 : Db 3145728 U0 0 x0) (HX1 : Db 3145728 U1 0 x1) (HX2 : Db 3145728 U2 0 x2) (HX3 : Db 3145728 U3 0 x3) (HX4 : Db 3145728 U4 0 x4) (HX5 : Db 3145728 U5 0 x5) (HX6 : Db 3145728 U6 0 x6) (HX7 : Db 3145728 U7 0 x7) (HX8 : Db 3145728 U8 0 x8) (HY0 : Db 3145728 W0 0 y0) (HY1 : Db 3145728 W1 0 y1) (HY2 : Db 3145728 W2 0 y2) (HY3 : Db 3145728 W3 0 y3) (HY4 : Db 3145728 W4 0 y4) (HY5 : Db 3145728 W5 0 y5) (HY6 : Db 3145728 W6 0 y6) (HY7 : Db 3145728 W7 0 y7) (HY8 : Db 3145728 W8 0 y8) :
    Ct l Z (⟨"com/example/twelvefold/twelvefold/FrameTransformMatrix", "times", "(Lcom/example/twelvefold/twelvefold/FrameTransformMatrix;)Lcom/example/twelvefold/twelvefold/FrameTransformMatrix;"⟩ : MethodName) prog_6_method_9_code 3 (some (.object "com/example/twelvefold/twelvefold/FrameTransformMatrix")) ws ({ frames := 3, cells := 3, slots := 19, locals := 51 } : Room) #[.ref a1, .ref a3] h0 (fun v h L => ∃ r t k d0 d1 d2 d3 d4 d5 d6 d7 d8, v = some (.ref r) ∧ Fr n0 L ∧ Keep h0 h [] ∧ h0.size ≤ r ∧ h0.size ≤ t ∧ t ≠ r ∧ Fld Z h r "com/example/twelvefold/twelvefold/FrameTransformMatrix" "elements" "[D" (.ref t) ∧ AR Z h t k .double [.double d0, .double d1, .double d2, .double d3, .double d4, .double d5, .double d6, .double d7, .double d8] ∧ Db (3145728 * 3145728 + 3145728 * 3145728 + 3145728 * 3145728) (U0 * W0 + U1 * W3 + U2 * W6) 0 d0 ∧ Db (3145728 * 3145728 + 3145728 * 3145728 + 3145728 * 3145728) (U0 * W1 + U1 * W4 + U2 * W7) 0 d1 ∧ Db (3145728 * 3145728 + 3145728 * 3145728 + 3145728 * 3145728) (U0 * W2 + U1 * W5 + U2 * W8) 0 d2 ∧ Db (3145728 * 3145728 + 3145728 * 3145728 + 3145728 * 3145728) (U3 * W0 + U4 * W3 + U5 * W6) 0 d3 ∧ Db (3145728 * 3145728 + 3145728 * 3145728 + 3145728 * 3145728) (U3 * W1 + U4 * W4 + U5 * W7) 0 d4 ∧ Db (3145728 * 3145728 + 3145728 * 3145728 + 3145728 * 3145728) (U3 * W2 + U4 * W5 + U5 * W8) 0 d5 ∧ Db (3145728 * 3145728 + 3145728 * 3145728 + 3145728 * 3145728) (U6 * W0 + U7 * W3 + U8 * W6) 0 d6 ∧ Db (3145728 * 3145728 + 3145728 * 3145728 + 3145728 * 3145728) (U6 * W1 + U7 * W4 + U8 * W7) 0 d7 ∧ Db (3145728 * 3145728 + 3145728 * 3145728 + 3145728 * 3145728) (U6 * W2 + U7 * W5 + U8 * W8) 0 d8) := by
  refine Ct.intro pn_3 #[.val (.ref a1), .val (.ref a3), .unset] (fun _ => by first | (simp [entryFrame, mkF, argsToLocals, Value.category, maxLocals]; done) | rfl) ?_
  intro p e s m below meth c T0 X0 hx hZ hby hml hown hnm hret hlk e0
  have N0 := Fr.nil n0
  have K0 := Keep.refl h0 []
  refine s_aloadN X0 hx (hb hby d3_0) rfl rfl 1 rfl ?_
  obtain ⟨T220, X220, e220, st220⟩ := getF X0 hx hZ hown (host := "") (Or.inl (wd hw 17 _ rfl)) Via.refl e0 F_3 (g := (mkF m 1 #[.val (.ref a1), .val (.ref a3), .unset] [.ref a3])) rfl rfl (hb hby d3_1)
  refine Go.via st220 ?_
  show Go p e below _ (T220.setTop (mkF m 4 #[.val (.ref a1), .val (.ref a3), .unset] [.ref a4]))
  refine s_astoreN X220 hx (hb hby d3_4) rfl #[.val (.ref a1), .val (.ref a3), .val (.ref a4)] rfl 5 rfl ?_
  refine s_aloadN X220 hx (hb hby d3_5) rfl rfl 6 rfl ?_
  refine s_bipush X220 hx (hb hby d3_6) (9 : Int32) rfl 8 rfl ?_
  obtain ⟨T221, h221, c221, X221, e221, E221, A221, st221⟩ := s_newarray X220 hx hZ (aty := .double) (wd hw 7 _ rfl) e220 (hb hby d3_8) #[.val (.ref a1), .val (.ref a3), .val (.ref a4)] [.ref a1] (n := (9 : Int32)) 9 (by decide) [.double (0 : UInt64), .double (0 : UInt64), .double (0 : UInt64), .double (0 : UInt64), .double (0 : UInt64), .double (0 : UInt64), .double (0 : UInt64), .double (0 : UInt64), .double (0 : UInt64)] rfl (by decide) (by decide) (by decide) 10 rfl
  obtain ⟨a221, g221⟩ : ∃ z, z = h0.size := ⟨_, rfl⟩
  rw [← g221] at A221 st221
  have ne222 : a1 ≠ a221 := by rw [g221]; exact Nat.ne_of_lt E1.lt
  have ne223 : a2 ≠ a221 := by rw [g221]; exact Nat.ne_of_lt A2.lt
  have ne224 : a4 ≠ a221 := by rw [g221]; exact Nat.ne_of_lt A4.lt
  have ne225 : a3 ≠ a221 := by rw [g221]; exact Nat.ne_of_lt F_3.lt
  have q226 : n0 ≤ a221 := by rw [g221]; exact Z0
  have q227 : h0.size ≤ a221 := by rw [g221]; exact K0.1
  have K228 := K0.ext E221
  have F229 := E1.ext E221
  have F230 := F_1.ext E221
  have F231 := A2.ext E221
  have F232 := A4.ext E221
  have F233 := F_3.ext E221
  have Z234 := Nat.le_trans Z0 E221.1
  refine Go.via st221 ?_
  refine s_dup X221 hx (hb hby d3_10) rfl 11 rfl ?_
  refine s_iconst X221 hx (hb hby d3_11) (0 : Int32) rfl 12 rfl ?_
  refine s_aloadN X221 hx (hb hby d3_12) rfl rfl 13 rfl ?_
  refine s_iconst X221 hx (hb hby d3_13) (0 : Int32) rfl 14 rfl ?_
  refine s_daload X221 hx hZ e221 F232 (hb hby d3_14) (j := (0 : Int32)) 0 (by decide) (.double y0) rfl 15 rfl ?_
  obtain ⟨T235, h235, X235, e235, W235, A235, st235⟩ := s_dastore X221 hx hZ e221 A221 (hb hby d3_15) #[.val (.ref a1), .val (.ref a3), .val (.ref a4)] [.ref a221, .ref a1] (j := (0 : Int32)) 0 (by decide) (by show 0 < 9; decide) y0 [.double y0, .double (0 : UInt64), .double (0 : UInt64), .double (0 : UInt64), .double (0 : UInt64), .double (0 : UInt64), .double (0 : UInt64), .double (0 : UInt64), .double (0 : UInt64)] rfl 16 rfl
  have N235 := Fr.snoc X235 N0 q226
  have F236 := F229.wr W235
  have F237 := F230.other W235 (Or.inl ne222)
  have F238 := F231.other W235 ne223
  have F239 := F232.other W235 ne224
  have F240 := F233.other W235 (Or.inl ne225)
  have Z241 : n0 ≤ h235.size := by rw [W235.size]; exact Z234
  have K242 := K228.wr W235 (Or.inr q227)
  refine Go.via st235 ?_
  refine s_dup X235 hx (hb hby d3_16) rfl 17 rfl ?_
  refine s_iconst X235 hx (hb hby d3_17) (1 : Int32) rfl 18 rfl ?_
  refine s_aloadN X235 hx (hb hby d3_18) rfl rfl 19 rfl ?_
  refine s_iconst X235 hx (hb hby d3_19) (3 : Int32) rfl 20 rfl ?_
  refine s_daload X235 hx hZ e235 F239 (hb hby d3_20) (j := (3 : Int32)) 3 (by decide) (.double y3) rfl 21 rfl ?_
  obtain ⟨T243, h243, X243, e243, W243, A243, st243⟩ := s_dastore X235 hx hZ e235 A235 (hb hby d3_21) #[.val (.ref a1), .val (.ref a3), .val (.ref a4)] [.ref a221, .ref a1] (j := (1 : Int32)) 1 (by decide) (by show 1 < 9; decide) y3 [.double y0, .double y3, .double (0 : UInt64), .double (0 : UInt64), .double (0 : UInt64), .double (0 : UInt64), .double (0 : UInt64), .double (0 : UInt64), .double (0 : UInt64)] rfl 22 rfl
  have N243 := Fr.snoc X243 N235 q226
  have F244 := F236.wr W243
  have F245 := F237.other W243 (Or.inl ne222)
  have F246 := F238.other W243 ne223
  have F247 := F239.other W243 ne224
  have F248 := F240.other W243 (Or.inl ne225)
  have Z249 : n0 ≤ h243.size := by rw [W243.size]; exact Z241
  have K250 := K242.wr W243 (Or.inr q227)
  refine Go.via st243 ?_
  refine s_dup X243 hx (hb hby d3_22) rfl 23 rfl ?_
  refine s_iconst X243 hx (hb hby d3_23) (2 : Int32) rfl 24 rfl ?_
  refine s_aloadN X243 hx (hb hby d3_24) rfl rfl 25 rfl ?_
  refine s_bipush X243 hx (hb hby d3_25) (6 : Int32) rfl 27 rfl ?_
  refine s_daload X243 hx hZ e243 F247 (hb hby d3_27) (j := (6 : Int32)) 6 (by decide) (.double y6) rfl 28 rfl ?_
  obtain ⟨T251, h251, X251, e251, W251, A251, st251⟩ := s_dastore X243 hx hZ e243 A243 (hb hby d3_28) #[.val (.ref a1), .val (.ref a3), .val (.ref a4)] [.ref a221, .ref a1] (j := (2 : Int32)) 2 (by decide) (by show 2 < 9; decide) y6 [.double y0, .double y3, .double y6, .double (0 : UInt64), .double (0 : UInt64), .double (0 : UInt64), .double (0 : UInt64), .double (0 : UInt64), .double (0 : UInt64)] rfl 29 rfl
  have N251 := Fr.snoc X251 N243 q226
  have F252 := F244.wr W251
  have F253 := F245.other W251 (Or.inl ne222)
  have F254 := F246.other W251 ne223
  have F255 := F247.other W251 ne224
  have F256 := F248.other W251 (Or.inl ne225)
  have Z257 : n0 ≤ h251.size := by rw [W251.size]; exact Z249
  have K258 := K250.wr W251 (Or.inr q227)
  refine Go.via st251 ?_
  refine s_dup X251 hx (hb hby d3_29) rfl 30 rfl ?_
  refine s_iconst X251 hx (hb hby d3_30) (3 : Int32) rfl 31 rfl ?_
  refine s_aloadN X251 hx (hb hby d3_31) rfl rfl 32 rfl ?_
  refine s_iconst X251 hx (hb hby d3_32) (1 : Int32) rfl 33 rfl ?_
  refine s_daload X251 hx hZ e251 F255 (hb hby d3_33) (j := (1 : Int32)) 1 (by decide) (.double y1) rfl 34 rfl ?_
  obtain ⟨T259, h259, X259, e259, W259, A259, st259⟩ := s_dastore X251 hx hZ e251 A251 (hb hby d3_34) #[.val (.ref a1), .val (.ref a3), .val (.ref a4)] [.ref a221, .ref a1] (j := (3 : Int32)) 3 (by decide) (by show 3 < 9; decide) y1 [.double y0, .double y3, .double y6, .double y1, .double (0 : UInt64), .double (0 : UInt64), .double (0 : UInt64), .double (0 : UInt64), .double (0 : UInt64)] rfl 35 rfl
  have N259 := Fr.snoc X259 N251 q226
  have F260 := F252.wr W259
  have F261 := F253.other W259 (Or.inl ne222)
  have F262 := F254.other W259 ne223
  have F263 := F255.other W259 ne224
  have F264 := F256.other W259 (Or.inl ne225)
  have Z265 : n0 ≤ h259.size := by rw [W259.size]; exact Z257
  have K266 := K258.wr W259 (Or.inr q227)
  refine Go.via st259 ?_
  refine s_dup X259 hx (hb hby d3_35) rfl 36 rfl ?_
  refine s_iconst X259 hx (hb hby d3_36) (4 : Int32) rfl 37 rfl ?_
  refine s_aloadN X259 hx (hb hby d3_37) rfl rfl 38 rfl ?_
  refine s_iconst X259 hx (hb hby d3_38) (4 : Int32) rfl 39 rfl ?_
  refine s_daload X259 hx hZ e259 F263 (hb hby d3_39) (j := (4 : Int32)) 4 (by decide) (.double y4) rfl 40 rfl ?_
  obtain ⟨T267, h267, X267, e267, W267, A267, st267⟩ := s_dastore X259 hx hZ e259 A259 (hb hby d3_40) #[.val (.ref a1), .val (.ref a3), .val (.ref a4)] [.ref a221, .ref a1] (j := (4 : Int32)) 4 (by decide) (by show 4 < 9; decide) y4 [.double y0, .double y3, .double y6, .double y1, .double y4, .double (0 : UInt64), .double (0 : UInt64), .double (0 : UInt64), .double (0 : UInt64)] rfl 41 rfl
  have N267 := Fr.snoc X267 N259 q226
  have F268 := F260.wr W267
  have F269 := F261.other W267 (Or.inl ne222)
  have F270 := F262.other W267 ne223
  have F271 := F263.other W267 ne224
  have F272 := F264.other W267 (Or.inl ne225)
  have Z273 : n0 ≤ h267.size := by rw [W267.size]; exact Z265
  have K274 := K266.wr W267 (Or.inr q227)
  refine Go.via st267 ?_
  refine s_dup X267 hx (hb hby d3_41) rfl 42 rfl ?_
  refine s_iconst X267 hx (hb hby d3_42) (5 : Int32) rfl 43 rfl ?_
  refine s_aloadN X267 hx (hb hby d3_43) rfl rfl 44 rfl ?_
  refine s_bipush X267 hx (hb hby d3_44) (7 : Int32) rfl 46 rfl ?_
  refine s_daload X267 hx hZ e267 F271 (hb hby d3_46) (j := (7 : Int32)) 7 (by decide) (.double y7) rfl 47 rfl ?_
  obtain ⟨T275, h275, X275, e275, W275, A275, st275⟩ := s_dastore X267 hx hZ e267 A267 (hb hby d3_47) #[.val (.ref a1), .val (.ref a3), .val (.ref a4)] [.ref a221, .ref a1] (j := (5 : Int32)) 5 (by decide) (by show 5 < 9; decide) y7 [.double y0, .double y3, .double y6, .double y1, .double y4, .double y7, .double (0 : UInt64), .double (0 : UInt64), .double (0 : UInt64)] rfl 48 rfl
  have N275 := Fr.snoc X275 N267 q226
  have F276 := F268.wr W275
  have F277 := F269.other W275 (Or.inl ne222)
  have F278 := F270.other W275 ne223
  have F279 := F271.other W275 ne224
  have F280 := F272.other W275 (Or.inl ne225)
  have Z281 : n0 ≤ h275.size := by rw [W275.size]; exact Z273
  have K282 := K274.wr W275 (Or.inr q227)
  refine Go.via st275 ?_
  refine s_dup X275 hx (hb hby d3_48) rfl 49 rfl ?_
  refine s_bipush X275 hx (hb hby d3_49) (6 : Int32) rfl 51 rfl ?_
  refine s_aloadN X275 hx (hb hby d3_51) rfl rfl 52 rfl ?_
  refine s_iconst X275 hx (hb hby d3_52) (2 : Int32) rfl 53 rfl ?_
  refine s_daload X275 hx hZ e275 F279 (hb hby d3_53) (j := (2 : Int32)) 2 (by decide) (.double y2) rfl 54 rfl ?_
  obtain ⟨T283, h283, X283, e283, W283, A283, st283⟩ := s_dastore X275 hx hZ e275 A275 (hb hby d3_54) #[.val (.ref a1), .val (.ref a3), .val (.ref a4)] [.ref a221, .ref a1] (j := (6 : Int32)) 6 (by decide) (by show 6 < 9; decide) y2 [.double y0, .double y3, .double y6, .double y1, .double y4, .double y7, .double y2, .double (0 : UInt64), .double (0 : UInt64)] rfl 55 rfl
  have N283 := Fr.snoc X283 N275 q226
  have F284 := F276.wr W283
  have F285 := F277.other W283 (Or.inl ne222)
  have F286 := F278.other W283 ne223
  have F287 := F279.other W283 ne224
  have F288 := F280.other W283 (Or.inl ne225)
  have Z289 : n0 ≤ h283.size := by rw [W283.size]; exact Z281
  have K290 := K282.wr W283 (Or.inr q227)
  refine Go.via st283 ?_
  refine s_dup X283 hx (hb hby d3_55) rfl 56 rfl ?_
  refine s_bipush X283 hx (hb hby d3_56) (7 : Int32) rfl 58 rfl ?_
  refine s_aloadN X283 hx (hb hby d3_58) rfl rfl 59 rfl ?_
  refine s_iconst X283 hx (hb hby d3_59) (5 : Int32) rfl 60 rfl ?_
  refine s_daload X283 hx hZ e283 F287 (hb hby d3_60) (j := (5 : Int32)) 5 (by decide) (.double y5) rfl 61 rfl ?_
  obtain ⟨T291, h291, X291, e291, W291, A291, st291⟩ := s_dastore X283 hx hZ e283 A283 (hb hby d3_61) #[.val (.ref a1), .val (.ref a3), .val (.ref a4)] [.ref a221, .ref a1] (j := (7 : Int32)) 7 (by decide) (by show 7 < 9; decide) y5 [.double y0, .double y3, .double y6, .double y1, .double y4, .double y7, .double y2, .double y5, .double (0 : UInt64)] rfl 62 rfl
  have N291 := Fr.snoc X291 N283 q226
  have F292 := F284.wr W291
  have F293 := F285.other W291 (Or.inl ne222)
  have F294 := F286.other W291 ne223
  have F295 := F287.other W291 ne224
  have F296 := F288.other W291 (Or.inl ne225)
  have Z297 : n0 ≤ h291.size := by rw [W291.size]; exact Z289
  have K298 := K290.wr W291 (Or.inr q227)
  refine Go.via st291 ?_
  refine s_dup X291 hx (hb hby d3_62) rfl 63 rfl ?_
  refine s_bipush X291 hx (hb hby d3_63) (8 : Int32) rfl 65 rfl ?_
  refine s_aloadN X291 hx (hb hby d3_65) rfl rfl 66 rfl ?_
  refine s_bipush X291 hx (hb hby d3_66) (8 : Int32) rfl 68 rfl ?_
  refine s_daload X291 hx hZ e291 F295 (hb hby d3_68) (j := (8 : Int32)) 8 (by decide) (.double y8) rfl 69 rfl ?_
  obtain ⟨T299, h299, X299, e299, W299, A299, st299⟩ := s_dastore X291 hx hZ e291 A291 (hb hby d3_69) #[.val (.ref a1), .val (.ref a3), .val (.ref a4)] [.ref a221, .ref a1] (j := (8 : Int32)) 8 (by decide) (by show 8 < 9; decide) y8 [.double y0, .double y3, .double y6, .double y1, .double y4, .double y7, .double y2, .double y5, .double y8] rfl 70 rfl
  have N299 := Fr.snoc X299 N291 q226
  have F300 := F292.wr W299
  have F301 := F293.other W299 (Or.inl ne222)
  have F302 := F294.other W299 ne223
  have F303 := F295.other W299 ne224
  have F304 := F296.other W299 (Or.inl ne225)
  have Z305 : n0 ≤ h299.size := by rw [W299.size]; exact Z297
  have K306 := K298.wr W299 (Or.inr q227)
  refine Go.via st299 ?_
  obtain ⟨v307, T307, L307, X307, hQ307, st307⟩ := callPriv X299 hx hZ hown (wd hw 24 _ rfl) (wd hw 26 _ rfl) (wd hw 9 _ rfl) (wd hw 25 _ rfl) (wd hw 10 _ rfl) (wd hw 27 _ rfl) (by decide) (rm_tt l Z a0 hw [] a1 a2 a221 k2 c221 x0 x1 x2 x3 x4 x5 x6 x7 x8 y0 y3 y6 y1 y4 y7 y2 y5 y8 _ _ _ _ _ _ _ _ _ _ _ _ _ _ _ _ _ _ h299 n0 Z305 F301 F302 A299 HX0 HX1 HX2 HX3 HX4 HX5 HX6 HX7 HX8 HY0 HY3 HY6 HY1 HY4 HY7 HY2 HY5 HY8) e299 a1 F300 (L := #[.val (.ref a1), .val (.ref a3), .val (.ref a4)]) (hb hby d3_70) (by rw [hml]; rfl) [.ref a221] [] rfl rfl pd_4 rfl 0 (by show 2 * 0 + _ ≤ _; exact Nat.le_of_eq rfl) (by decide) (by decide) (by decide) (by decide)
  obtain ⟨a307, b307, c307, d307_0, d307_1, d307_2, d307_3, d307_4, d307_5, d307_6, d307_7, d307_8, rfl, N307, K307, g307, g307_1, i307, F307, A307, B307_0, B307_1, B307_2, B307_3, B307_4, B307_5, B307_6, B307_7, B307_8⟩ := hQ307
  have M307 := Fr.app N299 N307
  have ne308 : a1 ≠ a307 := Nat.ne_of_lt (Nat.lt_of_lt_of_le F300.lt g307)
  have ne309 : a2 ≠ a307 := Nat.ne_of_lt (Nat.lt_of_lt_of_le F302.lt g307)
  have ne310 : a4 ≠ a307 := Nat.ne_of_lt (Nat.lt_of_lt_of_le F303.lt g307)
  have ne311 : a3 ≠ a307 := Nat.ne_of_lt (Nat.lt_of_lt_of_le F304.lt g307)
  have ne312 : a221 ≠ a307 := Nat.ne_of_lt (Nat.lt_of_lt_of_le A299.lt g307)
  have q313 : n0 ≤ a307 := Nat.le_trans Z305 g307
  have q314 : h0.size ≤ a307 := Nat.le_trans K306.1 g307
  have ne315 : a1 ≠ b307 := Nat.ne_of_lt (Nat.lt_of_lt_of_le F300.lt g307_1)
  have ne316 : a2 ≠ b307 := Nat.ne_of_lt (Nat.lt_of_lt_of_le F302.lt g307_1)
  have ne317 : a4 ≠ b307 := Nat.ne_of_lt (Nat.lt_of_lt_of_le F303.lt g307_1)
  have ne318 : a3 ≠ b307 := Nat.ne_of_lt (Nat.lt_of_lt_of_le F304.lt g307_1)
  have ne319 : a221 ≠ b307 := Nat.ne_of_lt (Nat.lt_of_lt_of_le A299.lt g307_1)
  have q320 : n0 ≤ b307 := Nat.le_trans Z305 g307_1
  have q321 : h0.size ≤ b307 := Nat.le_trans K306.1 g307_1
  have K322 := K306.trans K307 all0
  have F323 := F300.keep K307
  have F324 := F301.keep K307 nin0
  have F325 := F302.keep K307 nin0
  have F326 := F303.keep K307 nin0
  have F327 := F304.keep K307 nin0
  have F328 := A299.keep K307 nin0
  have Z329 := Nat.le_trans Z305 K307.1
  have e307 : T307.heap = T307.heap := rfl
  refine Go.via st307 ?_
  show Go p e below _ (T307.setTop (mkF m 73 #[.val (.ref a1), .val (.ref a3), .val (.ref a4)] [.ref a307]))
  exact retA X307 hx hlk hret (by decide) rfl (hb hby d3_73) e307 ⟨a307, b307, c307, _, _, _, _, _, _, _, _, _, rfl, M307, K322, q314, q321, i307, F307, A307, B307_0, B307_1, B307_2, B307_3, B307_4, B307_5, B307_6, B307_7, B307_8⟩ (by decide) (by decide)
theorem d7_0 : decode method_3_code 0 = .ok (.aload_n 1, 1) := by decide +kernel
theorem d7_1 : decode method_3_code 1 = .ok (.iconst 3, 1) := by decide +kernel
theorem d7_2 : decode method_3_code 2 = .ok (.iload_n 3, 1) := by decide +kernel
theorem d7_3 : decode method_3_code 3 = .ok (.imul, 1) := by decide +kernel
theorem d7_4 : decode method_3_code 4 = .ok (.laload, 1) := by decide +kernel
theorem d7_5 : decode method_3_code 5 = .ok (.aload_n 2, 1) := by decide +kernel
theorem d7_6 : decode method_3_code 6 = .ok (.iload 4, 2) := by decide +kernel
theorem d7_8 : decode method_3_code 8 = .ok (.laload, 1) := by decide +kernel
theorem d7_9 : decode method_3_code 9 = .ok (.lmul, 1) := by decide +kernel
theorem d7_10 : decode method_3_code 10 = .ok (.aload_n 1, 1) := by decide +kernel
theorem d7_11 : decode method_3_code 11 = .ok (.iconst 3, 1) := by decide +kernel
theorem d7_12 : decode method_3_code 12 = .ok (.iload_n 3, 1) := by decide +kernel
theorem d7_13 : decode method_3_code 13 = .ok (.imul, 1) := by decide +kernel
theorem d7_14 : decode method_3_code 14 = .ok (.iconst 1, 1) := by decide +kernel
theorem d7_15 : decode method_3_code 15 = .ok (.iadd, 1) := by decide +kernel
theorem d7_16 : decode method_3_code 16 = .ok (.laload, 1) := by decide +kernel
theorem d7_17 : decode method_3_code 17 = .ok (.aload_n 2, 1) := by decide +kernel
theorem d7_18 : decode method_3_code 18 = .ok (.iconst 3, 1) := by decide +kernel
theorem d7_19 : decode method_3_code 19 = .ok (.iload 4, 2) := by decide +kernel
theorem d7_21 : decode method_3_code 21 = .ok (.iadd, 1) := by decide +kernel
theorem d7_22 : decode method_3_code 22 = .ok (.laload, 1) := by decide +kernel
theorem d7_23 : decode method_3_code 23 = .ok (.lmul, 1) := by decide +kernel
theorem d7_24 : decode method_3_code 24 = .ok (.ladd, 1) := by decide +kernel
theorem d7_25 : decode method_3_code 25 = .ok (.aload_n 1, 1) := by decide +kernel
theorem d7_26 : decode method_3_code 26 = .ok (.iconst 3, 1) := by decide +kernel
theorem d7_27 : decode method_3_code 27 = .ok (.iload_n 3, 1) := by decide +kernel
theorem d7_28 : decode method_3_code 28 = .ok (.imul, 1) := by decide +kernel
theorem d7_29 : decode method_3_code 29 = .ok (.iconst 2, 1) := by decide +kernel
theorem d7_30 : decode method_3_code 30 = .ok (.iadd, 1) := by decide +kernel
theorem d7_31 : decode method_3_code 31 = .ok (.laload, 1) := by decide +kernel
theorem d7_32 : decode method_3_code 32 = .ok (.aload_n 2, 1) := by decide +kernel
theorem d7_33 : decode method_3_code 33 = .ok (.bipush 6, 2) := by decide +kernel
theorem d7_35 : decode method_3_code 35 = .ok (.iload 4, 2) := by decide +kernel
theorem d7_37 : decode method_3_code 37 = .ok (.iadd, 1) := by decide +kernel
theorem d7_38 : decode method_3_code 38 = .ok (.laload, 1) := by decide +kernel
theorem d7_39 : decode method_3_code 39 = .ok (.lmul, 1) := by decide +kernel
theorem d7_40 : decode method_3_code 40 = .ok (.ladd, 1) := by decide +kernel
theorem d7_41 : decode method_3_code 41 = .ok (.lstore 5, 2) := by decide +kernel
theorem d7_43 : decode method_3_code 43 = .ok (.aload_n 0, 1) := by decide +kernel
theorem d7_44 : decode method_3_code 44 = .ok (.iconst 3, 1) := by decide +kernel
theorem d7_45 : decode method_3_code 45 = .ok (.iload_n 3, 1) := by decide +kernel
theorem d7_46 : decode method_3_code 46 = .ok (.imul, 1) := by decide +kernel
theorem d7_47 : decode method_3_code 47 = .ok (.iload 4, 2) := by decide +kernel
theorem d7_49 : decode method_3_code 49 = .ok (.iadd, 1) := by decide +kernel
theorem d7_50 : decode method_3_code 50 = .ok (.daload, 1) := by decide +kernel
theorem d7_51 : decode method_3_code 51 = .ok (.lload 5, 2) := by decide +kernel
theorem d7_53 : decode method_3_code 53 = .ok (.l2d, 1) := by decide +kernel
theorem d7_54 : decode method_3_code 54 = .ok (.dcmp .l, 1) := by decide +kernel
theorem d7_55 : decode method_3_code 55 = .ok (.ifCond .ne 7, 3) := by decide +kernel
theorem d7_58 : decode method_3_code 58 = .ok (.iconst 1, 1) := by decide +kernel
theorem d7_59 : decode method_3_code 59 = .ok (.goto 4, 3) := by decide +kernel
theorem d7_62 : decode method_3_code 62 = .ok (.iconst 0, 1) := by decide +kernel
theorem d7_63 : decode method_3_code 63 = .ok (.ireturn, 1) := by decide +kernel
theorem pd_7 : parseMethodDescriptor "([D[J[JII)Z" = some ⟨[.array .double, .array .long, .array .long, .int, .int], some .boolean⟩ := by decide +kernel
theorem pn_7 : plainFor (⟨"com/example/twelvefold/twelvefold/FrameTransformMatrixTimesPinLaw", "entry", "([D[J[JII)Z"⟩ : MethodName) = true := plainFor_of_name (by show plainName "com/example/twelvefold/twelvefold/FrameTransformMatrixTimesPinLaw" = true; first | (simp [plainName, overriddenIn]; done) | decide +kernel)
set_option maxRecDepth 65536 in
set_option maxHeartbeats 40000000 in
theorem rm_en00 (l : Launch) (Z : State) (a0 : Array Value) (hw : ∀ d ∈ tables_1, d.before a0 Z = true) (ws : List Jvm.Cond) (a1 a2 a3 : Addr) (k1 k2 k3 : ClassId) (x0 x1 x2 x3 x4 x5 x6 x7 x8 : UInt64) (y0 y1 y2 y3 y4 y5 y6 y7 y8 t0 t1 t2 t3 t4 t5 t6 t7 t8 : Int64) (h0 : Heap) (n0 : Nat) (Z0 : n0 ≤ h0.size) (A1 : AR Z h0 a1 k1 .double [.double x0, .double x1, .double x2, .double x3, .double x4, .double x5, .double x6, .double x7, .double x8]) (A2 : AR Z h0 a2 k2 .long [.long y0, .long y1, .long y2, .long y3, .long y4, .long y5, .long y6, .long y7, .long y8]) (A3 : AR Z h0 a3 k3 .long [.long t0, .long t1, .long t2, .long t3, .long t4, .long t5, .long t6, .long t7, .long t8]) (hq : FP.dcmp x0 (FP.l2d (y0 * t0 + y1 * t3 + y2 * t6)) = some .eq) :
    Ct l Z (⟨"com/example/twelvefold/twelvefold/FrameTransformMatrixTimesPinLaw", "entry", "([D[J[JII)Z"⟩ : MethodName) method_3_code 7 (some .boolean) ws ({ frames := 0, cells := 0, slots := 0, locals := 0 } : Room) #[.ref a1, .ref a2, .ref a3, .int (0 : Int32), .int (0 : Int32)] h0 (fun v h L => v = some (.int 1) ∧ Fr n0 L ∧ h = h0) := by
  refine Ct.intro pn_7 #[.val (.ref a1), .val (.ref a2), .val (.ref a3), .val (.int (0 : Int32)), .val (.int (0 : Int32)), .unset, .unset] (fun _ => by first | (simp [entryFrame, mkF, argsToLocals, Value.category, maxLocals]; done) | rfl) ?_
  intro p e s m below meth c T0 X0 hx hZ hby hml hown hnm hret hlk e0
  have N0 := Fr.nil n0
  refine s_aloadN X0 hx (hb hby d7_0) rfl rfl 1 rfl ?_
  refine s_iconst X0 hx (hb hby d7_1) (3 : Int32) rfl 2 rfl ?_
  refine s_iloadN X0 hx (hb hby d7_2) rfl 3 rfl ?_
  refine s_imul X0 hx (hb hby d7_3) (0 : Int32) rfl 4 rfl ?_
  refine s_laload X0 hx hZ e0 A2 (hb hby d7_4) (j := (0 : Int32)) 0 (by decide) (.long y0) rfl 5 rfl ?_
  refine s_aloadN X0 hx (hb hby d7_5) rfl rfl 6 rfl ?_
  refine s_iload X0 hx (hb hby d7_6) rfl 8 rfl ?_
  refine s_laload X0 hx hZ e0 A3 (hb hby d7_8) (j := (0 : Int32)) 0 (by decide) (.long t0) rfl 9 rfl ?_
  refine s_lmul X0 hx (hb hby d7_9) (y0 * t0) rfl 10 rfl ?_
  refine s_aloadN X0 hx (hb hby d7_10) rfl rfl 11 rfl ?_
  refine s_iconst X0 hx (hb hby d7_11) (3 : Int32) rfl 12 rfl ?_
  refine s_iloadN X0 hx (hb hby d7_12) rfl 13 rfl ?_
  refine s_imul X0 hx (hb hby d7_13) (0 : Int32) rfl 14 rfl ?_
  refine s_iconst X0 hx (hb hby d7_14) (1 : Int32) rfl 15 rfl ?_
  refine s_iadd X0 hx (hb hby d7_15) (1 : Int32) rfl 16 rfl ?_
  refine s_laload X0 hx hZ e0 A2 (hb hby d7_16) (j := (1 : Int32)) 1 (by decide) (.long y1) rfl 17 rfl ?_
  refine s_aloadN X0 hx (hb hby d7_17) rfl rfl 18 rfl ?_
  refine s_iconst X0 hx (hb hby d7_18) (3 : Int32) rfl 19 rfl ?_
  refine s_iload X0 hx (hb hby d7_19) rfl 21 rfl ?_
  refine s_iadd X0 hx (hb hby d7_21) (3 : Int32) rfl 22 rfl ?_
  refine s_laload X0 hx hZ e0 A3 (hb hby d7_22) (j := (3 : Int32)) 3 (by decide) (.long t3) rfl 23 rfl ?_
  refine s_lmul X0 hx (hb hby d7_23) (y1 * t3) rfl 24 rfl ?_
  refine s_ladd X0 hx (hb hby d7_24) ((y0 * t0) + (y1 * t3)) rfl 25 rfl ?_
  refine s_aloadN X0 hx (hb hby d7_25) rfl rfl 26 rfl ?_
  refine s_iconst X0 hx (hb hby d7_26) (3 : Int32) rfl 27 rfl ?_
  refine s_iloadN X0 hx (hb hby d7_27) rfl 28 rfl ?_
  refine s_imul X0 hx (hb hby d7_28) (0 : Int32) rfl 29 rfl ?_
  refine s_iconst X0 hx (hb hby d7_29) (2 : Int32) rfl 30 rfl ?_
  refine s_iadd X0 hx (hb hby d7_30) (2 : Int32) rfl 31 rfl ?_
  refine s_laload X0 hx hZ e0 A2 (hb hby d7_31) (j := (2 : Int32)) 2 (by decide) (.long y2) rfl 32 rfl ?_
  refine s_aloadN X0 hx (hb hby d7_32) rfl rfl 33 rfl ?_
  refine s_bipush X0 hx (hb hby d7_33) (6 : Int32) rfl 35 rfl ?_
  refine s_iload X0 hx (hb hby d7_35) rfl 37 rfl ?_
  refine s_iadd X0 hx (hb hby d7_37) (6 : Int32) rfl 38 rfl ?_
  refine s_laload X0 hx hZ e0 A3 (hb hby d7_38) (j := (6 : Int32)) 6 (by decide) (.long t6) rfl 39 rfl ?_
  refine s_lmul X0 hx (hb hby d7_39) (y2 * t6) rfl 40 rfl ?_
  refine s_ladd X0 hx (hb hby d7_40) (((y0 * t0) + (y1 * t3)) + (y2 * t6)) rfl 41 rfl ?_
  refine s_lstore X0 hx (hb hby d7_41) #[.val (.ref a1), .val (.ref a2), .val (.ref a3), .val (.int (0 : Int32)), .val (.int (0 : Int32)), .val (.long (((y0 * t0) + (y1 * t3)) + (y2 * t6))), .second] rfl 43 rfl ?_
  refine s_aloadN X0 hx (hb hby d7_43) rfl rfl 44 rfl ?_
  refine s_iconst X0 hx (hb hby d7_44) (3 : Int32) rfl 45 rfl ?_
  refine s_iloadN X0 hx (hb hby d7_45) rfl 46 rfl ?_
  refine s_imul X0 hx (hb hby d7_46) (0 : Int32) rfl 47 rfl ?_
  refine s_iload X0 hx (hb hby d7_47) rfl 49 rfl ?_
  refine s_iadd X0 hx (hb hby d7_49) (0 : Int32) rfl 50 rfl ?_
  refine s_daload X0 hx hZ e0 A1 (hb hby d7_50) (j := (0 : Int32)) 0 (by decide) (.double x0) rfl 51 rfl ?_
  refine s_lload X0 hx (hb hby d7_51) rfl 53 rfl ?_
  refine s_l2d X0 hx (hb hby d7_53) (FP.l2d (((y0 * t0) + (y1 * t3)) + (y2 * t6))) rfl 54 rfl ?_
  refine s_dcmp X0 hx (hb hby d7_54) (0 : Int32) (by rw [show FP.dcmp x0 (FP.l2d (((y0 * t0) + (y1 * t3)) + (y2 * t6))) = some .eq from hq]; rfl) 55 rfl ?_
  refine s_ifN X0 hx (hb hby d7_55) (by decide) 58 rfl ?_
  refine s_iconst X0 hx (hb hby d7_58) (1 : Int32) rfl 59 rfl ?_
  refine s_goto X0 hx (hb hby d7_59) 63 (by decide) (by decide) ?_
  exact retZ X0 hx hlk hret (hb hby d7_63) (by decide) e0 ⟨rfl, N0, rfl⟩ (by decide) (by decide)
set_option maxRecDepth 65536 in
set_option maxHeartbeats 40000000 in
theorem rm_en01 (l : Launch) (Z : State) (a0 : Array Value) (hw : ∀ d ∈ tables_1, d.before a0 Z = true) (ws : List Jvm.Cond) (a1 a2 a3 : Addr) (k1 k2 k3 : ClassId) (x0 x1 x2 x3 x4 x5 x6 x7 x8 : UInt64) (y0 y1 y2 y3 y4 y5 y6 y7 y8 t0 t1 t2 t3 t4 t5 t6 t7 t8 : Int64) (h0 : Heap) (n0 : Nat) (Z0 : n0 ≤ h0.size) (A1 : AR Z h0 a1 k1 .double [.double x0, .double x1, .double x2, .double x3, .double x4, .double x5, .double x6, .double x7, .double x8]) (A2 : AR Z h0 a2 k2 .long [.long y0, .long y1, .long y2, .long y3, .long y4, .long y5, .long y6, .long y7, .long y8]) (A3 : AR Z h0 a3 k3 .long [.long t0, .long t1, .long t2, .long t3, .long t4, .long t5, .long t6, .long t7, .long t8]) (hq : FP.dcmp x1 (FP.l2d (y0 * t1 + y1 * t4 + y2 * t7)) = some .eq) :
    Ct l Z (⟨"com/example/twelvefold/twelvefold/FrameTransformMatrixTimesPinLaw", "entry", "([D[J[JII)Z"⟩ : MethodName) method_3_code 7 (some .boolean) ws ({ frames := 0, cells := 0, slots := 0, locals := 0 } : Room) #[.ref a1, .ref a2, .ref a3, .int (0 : Int32), .int (1 : Int32)] h0 (fun v h L => v = some (.int 1) ∧ Fr n0 L ∧ h = h0) := by
  refine Ct.intro pn_7 #[.val (.ref a1), .val (.ref a2), .val (.ref a3), .val (.int (0 : Int32)), .val (.int (1 : Int32)), .unset, .unset] (fun _ => by first | (simp [entryFrame, mkF, argsToLocals, Value.category, maxLocals]; done) | rfl) ?_
  intro p e s m below meth c T0 X0 hx hZ hby hml hown hnm hret hlk e0
  have N0 := Fr.nil n0
  refine s_aloadN X0 hx (hb hby d7_0) rfl rfl 1 rfl ?_
  refine s_iconst X0 hx (hb hby d7_1) (3 : Int32) rfl 2 rfl ?_
  refine s_iloadN X0 hx (hb hby d7_2) rfl 3 rfl ?_
  refine s_imul X0 hx (hb hby d7_3) (0 : Int32) rfl 4 rfl ?_
  refine s_laload X0 hx hZ e0 A2 (hb hby d7_4) (j := (0 : Int32)) 0 (by decide) (.long y0) rfl 5 rfl ?_
  refine s_aloadN X0 hx (hb hby d7_5) rfl rfl 6 rfl ?_
  refine s_iload X0 hx (hb hby d7_6) rfl 8 rfl ?_
  refine s_laload X0 hx hZ e0 A3 (hb hby d7_8) (j := (1 : Int32)) 1 (by decide) (.long t1) rfl 9 rfl ?_
  refine s_lmul X0 hx (hb hby d7_9) (y0 * t1) rfl 10 rfl ?_
  refine s_aloadN X0 hx (hb hby d7_10) rfl rfl 11 rfl ?_
  refine s_iconst X0 hx (hb hby d7_11) (3 : Int32) rfl 12 rfl ?_
  refine s_iloadN X0 hx (hb hby d7_12) rfl 13 rfl ?_
  refine s_imul X0 hx (hb hby d7_13) (0 : Int32) rfl 14 rfl ?_
  refine s_iconst X0 hx (hb hby d7_14) (1 : Int32) rfl 15 rfl ?_
  refine s_iadd X0 hx (hb hby d7_15) (1 : Int32) rfl 16 rfl ?_
  refine s_laload X0 hx hZ e0 A2 (hb hby d7_16) (j := (1 : Int32)) 1 (by decide) (.long y1) rfl 17 rfl ?_
  refine s_aloadN X0 hx (hb hby d7_17) rfl rfl 18 rfl ?_
  refine s_iconst X0 hx (hb hby d7_18) (3 : Int32) rfl 19 rfl ?_
  refine s_iload X0 hx (hb hby d7_19) rfl 21 rfl ?_
  refine s_iadd X0 hx (hb hby d7_21) (4 : Int32) rfl 22 rfl ?_
  refine s_laload X0 hx hZ e0 A3 (hb hby d7_22) (j := (4 : Int32)) 4 (by decide) (.long t4) rfl 23 rfl ?_
  refine s_lmul X0 hx (hb hby d7_23) (y1 * t4) rfl 24 rfl ?_
  refine s_ladd X0 hx (hb hby d7_24) ((y0 * t1) + (y1 * t4)) rfl 25 rfl ?_
  refine s_aloadN X0 hx (hb hby d7_25) rfl rfl 26 rfl ?_
  refine s_iconst X0 hx (hb hby d7_26) (3 : Int32) rfl 27 rfl ?_
  refine s_iloadN X0 hx (hb hby d7_27) rfl 28 rfl ?_
  refine s_imul X0 hx (hb hby d7_28) (0 : Int32) rfl 29 rfl ?_
  refine s_iconst X0 hx (hb hby d7_29) (2 : Int32) rfl 30 rfl ?_
  refine s_iadd X0 hx (hb hby d7_30) (2 : Int32) rfl 31 rfl ?_
  refine s_laload X0 hx hZ e0 A2 (hb hby d7_31) (j := (2 : Int32)) 2 (by decide) (.long y2) rfl 32 rfl ?_
  refine s_aloadN X0 hx (hb hby d7_32) rfl rfl 33 rfl ?_
  refine s_bipush X0 hx (hb hby d7_33) (6 : Int32) rfl 35 rfl ?_
  refine s_iload X0 hx (hb hby d7_35) rfl 37 rfl ?_
  refine s_iadd X0 hx (hb hby d7_37) (7 : Int32) rfl 38 rfl ?_
  refine s_laload X0 hx hZ e0 A3 (hb hby d7_38) (j := (7 : Int32)) 7 (by decide) (.long t7) rfl 39 rfl ?_
  refine s_lmul X0 hx (hb hby d7_39) (y2 * t7) rfl 40 rfl ?_
  refine s_ladd X0 hx (hb hby d7_40) (((y0 * t1) + (y1 * t4)) + (y2 * t7)) rfl 41 rfl ?_
  refine s_lstore X0 hx (hb hby d7_41) #[.val (.ref a1), .val (.ref a2), .val (.ref a3), .val (.int (0 : Int32)), .val (.int (1 : Int32)), .val (.long (((y0 * t1) + (y1 * t4)) + (y2 * t7))), .second] rfl 43 rfl ?_
  refine s_aloadN X0 hx (hb hby d7_43) rfl rfl 44 rfl ?_
  refine s_iconst X0 hx (hb hby d7_44) (3 : Int32) rfl 45 rfl ?_
  refine s_iloadN X0 hx (hb hby d7_45) rfl 46 rfl ?_
  refine s_imul X0 hx (hb hby d7_46) (0 : Int32) rfl 47 rfl ?_
  refine s_iload X0 hx (hb hby d7_47) rfl 49 rfl ?_
  refine s_iadd X0 hx (hb hby d7_49) (1 : Int32) rfl 50 rfl ?_
  refine s_daload X0 hx hZ e0 A1 (hb hby d7_50) (j := (1 : Int32)) 1 (by decide) (.double x1) rfl 51 rfl ?_
  refine s_lload X0 hx (hb hby d7_51) rfl 53 rfl ?_
  refine s_l2d X0 hx (hb hby d7_53) (FP.l2d (((y0 * t1) + (y1 * t4)) + (y2 * t7))) rfl 54 rfl ?_
  refine s_dcmp X0 hx (hb hby d7_54) (0 : Int32) (by rw [show FP.dcmp x1 (FP.l2d (((y0 * t1) + (y1 * t4)) + (y2 * t7))) = some .eq from hq]; rfl) 55 rfl ?_
  refine s_ifN X0 hx (hb hby d7_55) (by decide) 58 rfl ?_
  refine s_iconst X0 hx (hb hby d7_58) (1 : Int32) rfl 59 rfl ?_
  refine s_goto X0 hx (hb hby d7_59) 63 (by decide) (by decide) ?_
  exact retZ X0 hx hlk hret (hb hby d7_63) (by decide) e0 ⟨rfl, N0, rfl⟩ (by decide) (by decide)
set_option maxRecDepth 65536 in
set_option maxHeartbeats 40000000 in
theorem rm_en02 (l : Launch) (Z : State) (a0 : Array Value) (hw : ∀ d ∈ tables_1, d.before a0 Z = true) (ws : List Jvm.Cond) (a1 a2 a3 : Addr) (k1 k2 k3 : ClassId) (x0 x1 x2 x3 x4 x5 x6 x7 x8 : UInt64) (y0 y1 y2 y3 y4 y5 y6 y7 y8 t0 t1 t2 t3 t4 t5 t6 t7 t8 : Int64) (h0 : Heap) (n0 : Nat) (Z0 : n0 ≤ h0.size) (A1 : AR Z h0 a1 k1 .double [.double x0, .double x1, .double x2, .double x3, .double x4, .double x5, .double x6, .double x7, .double x8]) (A2 : AR Z h0 a2 k2 .long [.long y0, .long y1, .long y2, .long y3, .long y4, .long y5, .long y6, .long y7, .long y8]) (A3 : AR Z h0 a3 k3 .long [.long t0, .long t1, .long t2, .long t3, .long t4, .long t5, .long t6, .long t7, .long t8]) (hq : FP.dcmp x2 (FP.l2d (y0 * t2 + y1 * t5 + y2 * t8)) = some .eq) :
    Ct l Z (⟨"com/example/twelvefold/twelvefold/FrameTransformMatrixTimesPinLaw", "entry", "([D[J[JII)Z"⟩ : MethodName) method_3_code 7 (some .boolean) ws ({ frames := 0, cells := 0, slots := 0, locals := 0 } : Room) #[.ref a1, .ref a2, .ref a3, .int (0 : Int32), .int (2 : Int32)] h0 (fun v h L => v = some (.int 1) ∧ Fr n0 L ∧ h = h0) := by
  refine Ct.intro pn_7 #[.val (.ref a1), .val (.ref a2), .val (.ref a3), .val (.int (0 : Int32)), .val (.int (2 : Int32)), .unset, .unset] (fun _ => by first | (simp [entryFrame, mkF, argsToLocals, Value.category, maxLocals]; done) | rfl) ?_
  intro p e s m below meth c T0 X0 hx hZ hby hml hown hnm hret hlk e0
  have N0 := Fr.nil n0
  refine s_aloadN X0 hx (hb hby d7_0) rfl rfl 1 rfl ?_
  refine s_iconst X0 hx (hb hby d7_1) (3 : Int32) rfl 2 rfl ?_
  refine s_iloadN X0 hx (hb hby d7_2) rfl 3 rfl ?_
  refine s_imul X0 hx (hb hby d7_3) (0 : Int32) rfl 4 rfl ?_
  refine s_laload X0 hx hZ e0 A2 (hb hby d7_4) (j := (0 : Int32)) 0 (by decide) (.long y0) rfl 5 rfl ?_
  refine s_aloadN X0 hx (hb hby d7_5) rfl rfl 6 rfl ?_
  refine s_iload X0 hx (hb hby d7_6) rfl 8 rfl ?_
  refine s_laload X0 hx hZ e0 A3 (hb hby d7_8) (j := (2 : Int32)) 2 (by decide) (.long t2) rfl 9 rfl ?_
  refine s_lmul X0 hx (hb hby d7_9) (y0 * t2) rfl 10 rfl ?_
  refine s_aloadN X0 hx (hb hby d7_10) rfl rfl 11 rfl ?_
  refine s_iconst X0 hx (hb hby d7_11) (3 : Int32) rfl 12 rfl ?_
  refine s_iloadN X0 hx (hb hby d7_12) rfl 13 rfl ?_
  refine s_imul X0 hx (hb hby d7_13) (0 : Int32) rfl 14 rfl ?_
  refine s_iconst X0 hx (hb hby d7_14) (1 : Int32) rfl 15 rfl ?_
  refine s_iadd X0 hx (hb hby d7_15) (1 : Int32) rfl 16 rfl ?_
  refine s_laload X0 hx hZ e0 A2 (hb hby d7_16) (j := (1 : Int32)) 1 (by decide) (.long y1) rfl 17 rfl ?_
  refine s_aloadN X0 hx (hb hby d7_17) rfl rfl 18 rfl ?_
  refine s_iconst X0 hx (hb hby d7_18) (3 : Int32) rfl 19 rfl ?_
  refine s_iload X0 hx (hb hby d7_19) rfl 21 rfl ?_
  refine s_iadd X0 hx (hb hby d7_21) (5 : Int32) rfl 22 rfl ?_
  refine s_laload X0 hx hZ e0 A3 (hb hby d7_22) (j := (5 : Int32)) 5 (by decide) (.long t5) rfl 23 rfl ?_
  refine s_lmul X0 hx (hb hby d7_23) (y1 * t5) rfl 24 rfl ?_
  refine s_ladd X0 hx (hb hby d7_24) ((y0 * t2) + (y1 * t5)) rfl 25 rfl ?_
  refine s_aloadN X0 hx (hb hby d7_25) rfl rfl 26 rfl ?_
  refine s_iconst X0 hx (hb hby d7_26) (3 : Int32) rfl 27 rfl ?_
  refine s_iloadN X0 hx (hb hby d7_27) rfl 28 rfl ?_
  refine s_imul X0 hx (hb hby d7_28) (0 : Int32) rfl 29 rfl ?_
  refine s_iconst X0 hx (hb hby d7_29) (2 : Int32) rfl 30 rfl ?_
  refine s_iadd X0 hx (hb hby d7_30) (2 : Int32) rfl 31 rfl ?_
  refine s_laload X0 hx hZ e0 A2 (hb hby d7_31) (j := (2 : Int32)) 2 (by decide) (.long y2) rfl 32 rfl ?_
  refine s_aloadN X0 hx (hb hby d7_32) rfl rfl 33 rfl ?_
  refine s_bipush X0 hx (hb hby d7_33) (6 : Int32) rfl 35 rfl ?_
  refine s_iload X0 hx (hb hby d7_35) rfl 37 rfl ?_
  refine s_iadd X0 hx (hb hby d7_37) (8 : Int32) rfl 38 rfl ?_
  refine s_laload X0 hx hZ e0 A3 (hb hby d7_38) (j := (8 : Int32)) 8 (by decide) (.long t8) rfl 39 rfl ?_
  refine s_lmul X0 hx (hb hby d7_39) (y2 * t8) rfl 40 rfl ?_
  refine s_ladd X0 hx (hb hby d7_40) (((y0 * t2) + (y1 * t5)) + (y2 * t8)) rfl 41 rfl ?_
  refine s_lstore X0 hx (hb hby d7_41) #[.val (.ref a1), .val (.ref a2), .val (.ref a3), .val (.int (0 : Int32)), .val (.int (2 : Int32)), .val (.long (((y0 * t2) + (y1 * t5)) + (y2 * t8))), .second] rfl 43 rfl ?_
  refine s_aloadN X0 hx (hb hby d7_43) rfl rfl 44 rfl ?_
  refine s_iconst X0 hx (hb hby d7_44) (3 : Int32) rfl 45 rfl ?_
  refine s_iloadN X0 hx (hb hby d7_45) rfl 46 rfl ?_
  refine s_imul X0 hx (hb hby d7_46) (0 : Int32) rfl 47 rfl ?_
  refine s_iload X0 hx (hb hby d7_47) rfl 49 rfl ?_
  refine s_iadd X0 hx (hb hby d7_49) (2 : Int32) rfl 50 rfl ?_
  refine s_daload X0 hx hZ e0 A1 (hb hby d7_50) (j := (2 : Int32)) 2 (by decide) (.double x2) rfl 51 rfl ?_
  refine s_lload X0 hx (hb hby d7_51) rfl 53 rfl ?_
  refine s_l2d X0 hx (hb hby d7_53) (FP.l2d (((y0 * t2) + (y1 * t5)) + (y2 * t8))) rfl 54 rfl ?_
  refine s_dcmp X0 hx (hb hby d7_54) (0 : Int32) (by rw [show FP.dcmp x2 (FP.l2d (((y0 * t2) + (y1 * t5)) + (y2 * t8))) = some .eq from hq]; rfl) 55 rfl ?_
  refine s_ifN X0 hx (hb hby d7_55) (by decide) 58 rfl ?_
  refine s_iconst X0 hx (hb hby d7_58) (1 : Int32) rfl 59 rfl ?_
  refine s_goto X0 hx (hb hby d7_59) 63 (by decide) (by decide) ?_
  exact retZ X0 hx hlk hret (hb hby d7_63) (by decide) e0 ⟨rfl, N0, rfl⟩ (by decide) (by decide)
set_option maxRecDepth 65536 in
set_option maxHeartbeats 40000000 in
theorem rm_en10 (l : Launch) (Z : State) (a0 : Array Value) (hw : ∀ d ∈ tables_1, d.before a0 Z = true) (ws : List Jvm.Cond) (a1 a2 a3 : Addr) (k1 k2 k3 : ClassId) (x0 x1 x2 x3 x4 x5 x6 x7 x8 : UInt64) (y0 y1 y2 y3 y4 y5 y6 y7 y8 t0 t1 t2 t3 t4 t5 t6 t7 t8 : Int64) (h0 : Heap) (n0 : Nat) (Z0 : n0 ≤ h0.size) (A1 : AR Z h0 a1 k1 .double [.double x0, .double x1, .double x2, .double x3, .double x4, .double x5, .double x6, .double x7, .double x8]) (A2 : AR Z h0 a2 k2 .long [.long y0, .long y1, .long y2, .long y3, .long y4, .long y5, .long y6, .long y7, .long y8]) (A3 : AR Z h0 a3 k3 .long [.long t0, .long t1, .long t2, .long t3, .long t4, .long t5, .long t6, .long t7, .long t8]) (hq : FP.dcmp x3 (FP.l2d (y3 * t0 + y4 * t3 + y5 * t6)) = some .eq) :
    Ct l Z (⟨"com/example/twelvefold/twelvefold/FrameTransformMatrixTimesPinLaw", "entry", "([D[J[JII)Z"⟩ : MethodName) method_3_code 7 (some .boolean) ws ({ frames := 0, cells := 0, slots := 0, locals := 0 } : Room) #[.ref a1, .ref a2, .ref a3, .int (1 : Int32), .int (0 : Int32)] h0 (fun v h L => v = some (.int 1) ∧ Fr n0 L ∧ h = h0) := by
  refine Ct.intro pn_7 #[.val (.ref a1), .val (.ref a2), .val (.ref a3), .val (.int (1 : Int32)), .val (.int (0 : Int32)), .unset, .unset] (fun _ => by first | (simp [entryFrame, mkF, argsToLocals, Value.category, maxLocals]; done) | rfl) ?_
  intro p e s m below meth c T0 X0 hx hZ hby hml hown hnm hret hlk e0
  have N0 := Fr.nil n0
  refine s_aloadN X0 hx (hb hby d7_0) rfl rfl 1 rfl ?_
  refine s_iconst X0 hx (hb hby d7_1) (3 : Int32) rfl 2 rfl ?_
  refine s_iloadN X0 hx (hb hby d7_2) rfl 3 rfl ?_
  refine s_imul X0 hx (hb hby d7_3) (3 : Int32) rfl 4 rfl ?_
  refine s_laload X0 hx hZ e0 A2 (hb hby d7_4) (j := (3 : Int32)) 3 (by decide) (.long y3) rfl 5 rfl ?_
  refine s_aloadN X0 hx (hb hby d7_5) rfl rfl 6 rfl ?_
  refine s_iload X0 hx (hb hby d7_6) rfl 8 rfl ?_
  refine s_laload X0 hx hZ e0 A3 (hb hby d7_8) (j := (0 : Int32)) 0 (by decide) (.long t0) rfl 9 rfl ?_
  refine s_lmul X0 hx (hb hby d7_9) (y3 * t0) rfl 10 rfl ?_
  refine s_aloadN X0 hx (hb hby d7_10) rfl rfl 11 rfl ?_
  refine s_iconst X0 hx (hb hby d7_11) (3 : Int32) rfl 12 rfl ?_
  refine s_iloadN X0 hx (hb hby d7_12) rfl 13 rfl ?_
  refine s_imul X0 hx (hb hby d7_13) (3 : Int32) rfl 14 rfl ?_
  refine s_iconst X0 hx (hb hby d7_14) (1 : Int32) rfl 15 rfl ?_
  refine s_iadd X0 hx (hb hby d7_15) (4 : Int32) rfl 16 rfl ?_
  refine s_laload X0 hx hZ e0 A2 (hb hby d7_16) (j := (4 : Int32)) 4 (by decide) (.long y4) rfl 17 rfl ?_
  refine s_aloadN X0 hx (hb hby d7_17) rfl rfl 18 rfl ?_
  refine s_iconst X0 hx (hb hby d7_18) (3 : Int32) rfl 19 rfl ?_
  refine s_iload X0 hx (hb hby d7_19) rfl 21 rfl ?_
  refine s_iadd X0 hx (hb hby d7_21) (3 : Int32) rfl 22 rfl ?_
  refine s_laload X0 hx hZ e0 A3 (hb hby d7_22) (j := (3 : Int32)) 3 (by decide) (.long t3) rfl 23 rfl ?_
  refine s_lmul X0 hx (hb hby d7_23) (y4 * t3) rfl 24 rfl ?_
  refine s_ladd X0 hx (hb hby d7_24) ((y3 * t0) + (y4 * t3)) rfl 25 rfl ?_
  refine s_aloadN X0 hx (hb hby d7_25) rfl rfl 26 rfl ?_
  refine s_iconst X0 hx (hb hby d7_26) (3 : Int32) rfl 27 rfl ?_
  refine s_iloadN X0 hx (hb hby d7_27) rfl 28 rfl ?_
  refine s_imul X0 hx (hb hby d7_28) (3 : Int32) rfl 29 rfl ?_
  refine s_iconst X0 hx (hb hby d7_29) (2 : Int32) rfl 30 rfl ?_
  refine s_iadd X0 hx (hb hby d7_30) (5 : Int32) rfl 31 rfl ?_
  refine s_laload X0 hx hZ e0 A2 (hb hby d7_31) (j := (5 : Int32)) 5 (by decide) (.long y5) rfl 32 rfl ?_
  refine s_aloadN X0 hx (hb hby d7_32) rfl rfl 33 rfl ?_
  refine s_bipush X0 hx (hb hby d7_33) (6 : Int32) rfl 35 rfl ?_
  refine s_iload X0 hx (hb hby d7_35) rfl 37 rfl ?_
  refine s_iadd X0 hx (hb hby d7_37) (6 : Int32) rfl 38 rfl ?_
  refine s_laload X0 hx hZ e0 A3 (hb hby d7_38) (j := (6 : Int32)) 6 (by decide) (.long t6) rfl 39 rfl ?_
  refine s_lmul X0 hx (hb hby d7_39) (y5 * t6) rfl 40 rfl ?_
  refine s_ladd X0 hx (hb hby d7_40) (((y3 * t0) + (y4 * t3)) + (y5 * t6)) rfl 41 rfl ?_
  refine s_lstore X0 hx (hb hby d7_41) #[.val (.ref a1), .val (.ref a2), .val (.ref a3), .val (.int (1 : Int32)), .val (.int (0 : Int32)), .val (.long (((y3 * t0) + (y4 * t3)) + (y5 * t6))), .second] rfl 43 rfl ?_
  refine s_aloadN X0 hx (hb hby d7_43) rfl rfl 44 rfl ?_
  refine s_iconst X0 hx (hb hby d7_44) (3 : Int32) rfl 45 rfl ?_
  refine s_iloadN X0 hx (hb hby d7_45) rfl 46 rfl ?_
  refine s_imul X0 hx (hb hby d7_46) (3 : Int32) rfl 47 rfl ?_
  refine s_iload X0 hx (hb hby d7_47) rfl 49 rfl ?_
  refine s_iadd X0 hx (hb hby d7_49) (3 : Int32) rfl 50 rfl ?_
  refine s_daload X0 hx hZ e0 A1 (hb hby d7_50) (j := (3 : Int32)) 3 (by decide) (.double x3) rfl 51 rfl ?_
  refine s_lload X0 hx (hb hby d7_51) rfl 53 rfl ?_
  refine s_l2d X0 hx (hb hby d7_53) (FP.l2d (((y3 * t0) + (y4 * t3)) + (y5 * t6))) rfl 54 rfl ?_
  refine s_dcmp X0 hx (hb hby d7_54) (0 : Int32) (by rw [show FP.dcmp x3 (FP.l2d (((y3 * t0) + (y4 * t3)) + (y5 * t6))) = some .eq from hq]; rfl) 55 rfl ?_
  refine s_ifN X0 hx (hb hby d7_55) (by decide) 58 rfl ?_
  refine s_iconst X0 hx (hb hby d7_58) (1 : Int32) rfl 59 rfl ?_
  refine s_goto X0 hx (hb hby d7_59) 63 (by decide) (by decide) ?_
  exact retZ X0 hx hlk hret (hb hby d7_63) (by decide) e0 ⟨rfl, N0, rfl⟩ (by decide) (by decide)
set_option maxRecDepth 65536 in
set_option maxHeartbeats 40000000 in
theorem rm_en11 (l : Launch) (Z : State) (a0 : Array Value) (hw : ∀ d ∈ tables_1, d.before a0 Z = true) (ws : List Jvm.Cond) (a1 a2 a3 : Addr) (k1 k2 k3 : ClassId) (x0 x1 x2 x3 x4 x5 x6 x7 x8 : UInt64) (y0 y1 y2 y3 y4 y5 y6 y7 y8 t0 t1 t2 t3 t4 t5 t6 t7 t8 : Int64) (h0 : Heap) (n0 : Nat) (Z0 : n0 ≤ h0.size) (A1 : AR Z h0 a1 k1 .double [.double x0, .double x1, .double x2, .double x3, .double x4, .double x5, .double x6, .double x7, .double x8]) (A2 : AR Z h0 a2 k2 .long [.long y0, .long y1, .long y2, .long y3, .long y4, .long y5, .long y6, .long y7, .long y8]) (A3 : AR Z h0 a3 k3 .long [.long t0, .long t1, .long t2, .long t3, .long t4, .long t5, .long t6, .long t7, .long t8]) (hq : FP.dcmp x4 (FP.l2d (y3 * t1 + y4 * t4 + y5 * t7)) = some .eq) :
    Ct l Z (⟨"com/example/twelvefold/twelvefold/FrameTransformMatrixTimesPinLaw", "entry", "([D[J[JII)Z"⟩ : MethodName) method_3_code 7 (some .boolean) ws ({ frames := 0, cells := 0, slots := 0, locals := 0 } : Room) #[.ref a1, .ref a2, .ref a3, .int (1 : Int32), .int (1 : Int32)] h0 (fun v h L => v = some (.int 1) ∧ Fr n0 L ∧ h = h0) := by
  refine Ct.intro pn_7 #[.val (.ref a1), .val (.ref a2), .val (.ref a3), .val (.int (1 : Int32)), .val (.int (1 : Int32)), .unset, .unset] (fun _ => by first | (simp [entryFrame, mkF, argsToLocals, Value.category, maxLocals]; done) | rfl) ?_
  intro p e s m below meth c T0 X0 hx hZ hby hml hown hnm hret hlk e0
  have N0 := Fr.nil n0
  refine s_aloadN X0 hx (hb hby d7_0) rfl rfl 1 rfl ?_
  refine s_iconst X0 hx (hb hby d7_1) (3 : Int32) rfl 2 rfl ?_
  refine s_iloadN X0 hx (hb hby d7_2) rfl 3 rfl ?_
  refine s_imul X0 hx (hb hby d7_3) (3 : Int32) rfl 4 rfl ?_
  refine s_laload X0 hx hZ e0 A2 (hb hby d7_4) (j := (3 : Int32)) 3 (by decide) (.long y3) rfl 5 rfl ?_
  refine s_aloadN X0 hx (hb hby d7_5) rfl rfl 6 rfl ?_
  refine s_iload X0 hx (hb hby d7_6) rfl 8 rfl ?_
  refine s_laload X0 hx hZ e0 A3 (hb hby d7_8) (j := (1 : Int32)) 1 (by decide) (.long t1) rfl 9 rfl ?_
  refine s_lmul X0 hx (hb hby d7_9) (y3 * t1) rfl 10 rfl ?_
  refine s_aloadN X0 hx (hb hby d7_10) rfl rfl 11 rfl ?_
  refine s_iconst X0 hx (hb hby d7_11) (3 : Int32) rfl 12 rfl ?_
  refine s_iloadN X0 hx (hb hby d7_12) rfl 13 rfl ?_
  refine s_imul X0 hx (hb hby d7_13) (3 : Int32) rfl 14 rfl ?_
  refine s_iconst X0 hx (hb hby d7_14) (1 : Int32) rfl 15 rfl ?_
  refine s_iadd X0 hx (hb hby d7_15) (4 : Int32) rfl 16 rfl ?_
  refine s_laload X0 hx hZ e0 A2 (hb hby d7_16) (j := (4 : Int32)) 4 (by decide) (.long y4) rfl 17 rfl ?_
  refine s_aloadN X0 hx (hb hby d7_17) rfl rfl 18 rfl ?_
  refine s_iconst X0 hx (hb hby d7_18) (3 : Int32) rfl 19 rfl ?_
  refine s_iload X0 hx (hb hby d7_19) rfl 21 rfl ?_
  refine s_iadd X0 hx (hb hby d7_21) (4 : Int32) rfl 22 rfl ?_
  refine s_laload X0 hx hZ e0 A3 (hb hby d7_22) (j := (4 : Int32)) 4 (by decide) (.long t4) rfl 23 rfl ?_
  refine s_lmul X0 hx (hb hby d7_23) (y4 * t4) rfl 24 rfl ?_
  refine s_ladd X0 hx (hb hby d7_24) ((y3 * t1) + (y4 * t4)) rfl 25 rfl ?_
  refine s_aloadN X0 hx (hb hby d7_25) rfl rfl 26 rfl ?_
  refine s_iconst X0 hx (hb hby d7_26) (3 : Int32) rfl 27 rfl ?_
  refine s_iloadN X0 hx (hb hby d7_27) rfl 28 rfl ?_
  refine s_imul X0 hx (hb hby d7_28) (3 : Int32) rfl 29 rfl ?_
  refine s_iconst X0 hx (hb hby d7_29) (2 : Int32) rfl 30 rfl ?_
  refine s_iadd X0 hx (hb hby d7_30) (5 : Int32) rfl 31 rfl ?_
  refine s_laload X0 hx hZ e0 A2 (hb hby d7_31) (j := (5 : Int32)) 5 (by decide) (.long y5) rfl 32 rfl ?_
  refine s_aloadN X0 hx (hb hby d7_32) rfl rfl 33 rfl ?_
  refine s_bipush X0 hx (hb hby d7_33) (6 : Int32) rfl 35 rfl ?_
  refine s_iload X0 hx (hb hby d7_35) rfl 37 rfl ?_
  refine s_iadd X0 hx (hb hby d7_37) (7 : Int32) rfl 38 rfl ?_
  refine s_laload X0 hx hZ e0 A3 (hb hby d7_38) (j := (7 : Int32)) 7 (by decide) (.long t7) rfl 39 rfl ?_
  refine s_lmul X0 hx (hb hby d7_39) (y5 * t7) rfl 40 rfl ?_
  refine s_ladd X0 hx (hb hby d7_40) (((y3 * t1) + (y4 * t4)) + (y5 * t7)) rfl 41 rfl ?_
  refine s_lstore X0 hx (hb hby d7_41) #[.val (.ref a1), .val (.ref a2), .val (.ref a3), .val (.int (1 : Int32)), .val (.int (1 : Int32)), .val (.long (((y3 * t1) + (y4 * t4)) + (y5 * t7))), .second] rfl 43 rfl ?_
  refine s_aloadN X0 hx (hb hby d7_43) rfl rfl 44 rfl ?_
  refine s_iconst X0 hx (hb hby d7_44) (3 : Int32) rfl 45 rfl ?_
  refine s_iloadN X0 hx (hb hby d7_45) rfl 46 rfl ?_
  refine s_imul X0 hx (hb hby d7_46) (3 : Int32) rfl 47 rfl ?_
  refine s_iload X0 hx (hb hby d7_47) rfl 49 rfl ?_
  refine s_iadd X0 hx (hb hby d7_49) (4 : Int32) rfl 50 rfl ?_
  refine s_daload X0 hx hZ e0 A1 (hb hby d7_50) (j := (4 : Int32)) 4 (by decide) (.double x4) rfl 51 rfl ?_
  refine s_lload X0 hx (hb hby d7_51) rfl 53 rfl ?_
  refine s_l2d X0 hx (hb hby d7_53) (FP.l2d (((y3 * t1) + (y4 * t4)) + (y5 * t7))) rfl 54 rfl ?_
  refine s_dcmp X0 hx (hb hby d7_54) (0 : Int32) (by rw [show FP.dcmp x4 (FP.l2d (((y3 * t1) + (y4 * t4)) + (y5 * t7))) = some .eq from hq]; rfl) 55 rfl ?_
  refine s_ifN X0 hx (hb hby d7_55) (by decide) 58 rfl ?_
  refine s_iconst X0 hx (hb hby d7_58) (1 : Int32) rfl 59 rfl ?_
  refine s_goto X0 hx (hb hby d7_59) 63 (by decide) (by decide) ?_
  exact retZ X0 hx hlk hret (hb hby d7_63) (by decide) e0 ⟨rfl, N0, rfl⟩ (by decide) (by decide)
set_option maxRecDepth 65536 in
set_option maxHeartbeats 40000000 in
theorem rm_en12 (l : Launch) (Z : State) (a0 : Array Value) (hw : ∀ d ∈ tables_1, d.before a0 Z = true) (ws : List Jvm.Cond) (a1 a2 a3 : Addr) (k1 k2 k3 : ClassId) (x0 x1 x2 x3 x4 x5 x6 x7 x8 : UInt64) (y0 y1 y2 y3 y4 y5 y6 y7 y8 t0 t1 t2 t3 t4 t5 t6 t7 t8 : Int64) (h0 : Heap) (n0 : Nat) (Z0 : n0 ≤ h0.size) (A1 : AR Z h0 a1 k1 .double [.double x0, .double x1, .double x2, .double x3, .double x4, .double x5, .double x6, .double x7, .double x8]) (A2 : AR Z h0 a2 k2 .long [.long y0, .long y1, .long y2, .long y3, .long y4, .long y5, .long y6, .long y7, .long y8]) (A3 : AR Z h0 a3 k3 .long [.long t0, .long t1, .long t2, .long t3, .long t4, .long t5, .long t6, .long t7, .long t8]) (hq : FP.dcmp x5 (FP.l2d (y3 * t2 + y4 * t5 + y5 * t8)) = some .eq) :
    Ct l Z (⟨"com/example/twelvefold/twelvefold/FrameTransformMatrixTimesPinLaw", "entry", "([D[J[JII)Z"⟩ : MethodName) method_3_code 7 (some .boolean) ws ({ frames := 0, cells := 0, slots := 0, locals := 0 } : Room) #[.ref a1, .ref a2, .ref a3, .int (1 : Int32), .int (2 : Int32)] h0 (fun v h L => v = some (.int 1) ∧ Fr n0 L ∧ h = h0) := by
  refine Ct.intro pn_7 #[.val (.ref a1), .val (.ref a2), .val (.ref a3), .val (.int (1 : Int32)), .val (.int (2 : Int32)), .unset, .unset] (fun _ => by first | (simp [entryFrame, mkF, argsToLocals, Value.category, maxLocals]; done) | rfl) ?_
  intro p e s m below meth c T0 X0 hx hZ hby hml hown hnm hret hlk e0
  have N0 := Fr.nil n0
  refine s_aloadN X0 hx (hb hby d7_0) rfl rfl 1 rfl ?_
  refine s_iconst X0 hx (hb hby d7_1) (3 : Int32) rfl 2 rfl ?_
  refine s_iloadN X0 hx (hb hby d7_2) rfl 3 rfl ?_
  refine s_imul X0 hx (hb hby d7_3) (3 : Int32) rfl 4 rfl ?_
  refine s_laload X0 hx hZ e0 A2 (hb hby d7_4) (j := (3 : Int32)) 3 (by decide) (.long y3) rfl 5 rfl ?_
  refine s_aloadN X0 hx (hb hby d7_5) rfl rfl 6 rfl ?_
  refine s_iload X0 hx (hb hby d7_6) rfl 8 rfl ?_
  refine s_laload X0 hx hZ e0 A3 (hb hby d7_8) (j := (2 : Int32)) 2 (by decide) (.long t2) rfl 9 rfl ?_
  refine s_lmul X0 hx (hb hby d7_9) (y3 * t2) rfl 10 rfl ?_
  refine s_aloadN X0 hx (hb hby d7_10) rfl rfl 11 rfl ?_
  refine s_iconst X0 hx (hb hby d7_11) (3 : Int32) rfl 12 rfl ?_
  refine s_iloadN X0 hx (hb hby d7_12) rfl 13 rfl ?_
  refine s_imul X0 hx (hb hby d7_13) (3 : Int32) rfl 14 rfl ?_
  refine s_iconst X0 hx (hb hby d7_14) (1 : Int32) rfl 15 rfl ?_
  refine s_iadd X0 hx (hb hby d7_15) (4 : Int32) rfl 16 rfl ?_
  refine s_laload X0 hx hZ e0 A2 (hb hby d7_16) (j := (4 : Int32)) 4 (by decide) (.long y4) rfl 17 rfl ?_
  refine s_aloadN X0 hx (hb hby d7_17) rfl rfl 18 rfl ?_
  refine s_iconst X0 hx (hb hby d7_18) (3 : Int32) rfl 19 rfl ?_
  refine s_iload X0 hx (hb hby d7_19) rfl 21 rfl ?_
  refine s_iadd X0 hx (hb hby d7_21) (5 : Int32) rfl 22 rfl ?_
  refine s_laload X0 hx hZ e0 A3 (hb hby d7_22) (j := (5 : Int32)) 5 (by decide) (.long t5) rfl 23 rfl ?_
  refine s_lmul X0 hx (hb hby d7_23) (y4 * t5) rfl 24 rfl ?_
  refine s_ladd X0 hx (hb hby d7_24) ((y3 * t2) + (y4 * t5)) rfl 25 rfl ?_
  refine s_aloadN X0 hx (hb hby d7_25) rfl rfl 26 rfl ?_
  refine s_iconst X0 hx (hb hby d7_26) (3 : Int32) rfl 27 rfl ?_
  refine s_iloadN X0 hx (hb hby d7_27) rfl 28 rfl ?_
  refine s_imul X0 hx (hb hby d7_28) (3 : Int32) rfl 29 rfl ?_
  refine s_iconst X0 hx (hb hby d7_29) (2 : Int32) rfl 30 rfl ?_
  refine s_iadd X0 hx (hb hby d7_30) (5 : Int32) rfl 31 rfl ?_
  refine s_laload X0 hx hZ e0 A2 (hb hby d7_31) (j := (5 : Int32)) 5 (by decide) (.long y5) rfl 32 rfl ?_
  refine s_aloadN X0 hx (hb hby d7_32) rfl rfl 33 rfl ?_
  refine s_bipush X0 hx (hb hby d7_33) (6 : Int32) rfl 35 rfl ?_
  refine s_iload X0 hx (hb hby d7_35) rfl 37 rfl ?_
  refine s_iadd X0 hx (hb hby d7_37) (8 : Int32) rfl 38 rfl ?_
  refine s_laload X0 hx hZ e0 A3 (hb hby d7_38) (j := (8 : Int32)) 8 (by decide) (.long t8) rfl 39 rfl ?_
  refine s_lmul X0 hx (hb hby d7_39) (y5 * t8) rfl 40 rfl ?_
  refine s_ladd X0 hx (hb hby d7_40) (((y3 * t2) + (y4 * t5)) + (y5 * t8)) rfl 41 rfl ?_
  refine s_lstore X0 hx (hb hby d7_41) #[.val (.ref a1), .val (.ref a2), .val (.ref a3), .val (.int (1 : Int32)), .val (.int (2 : Int32)), .val (.long (((y3 * t2) + (y4 * t5)) + (y5 * t8))), .second] rfl 43 rfl ?_
  refine s_aloadN X0 hx (hb hby d7_43) rfl rfl 44 rfl ?_
  refine s_iconst X0 hx (hb hby d7_44) (3 : Int32) rfl 45 rfl ?_
  refine s_iloadN X0 hx (hb hby d7_45) rfl 46 rfl ?_
  refine s_imul X0 hx (hb hby d7_46) (3 : Int32) rfl 47 rfl ?_
  refine s_iload X0 hx (hb hby d7_47) rfl 49 rfl ?_
  refine s_iadd X0 hx (hb hby d7_49) (5 : Int32) rfl 50 rfl ?_
  refine s_daload X0 hx hZ e0 A1 (hb hby d7_50) (j := (5 : Int32)) 5 (by decide) (.double x5) rfl 51 rfl ?_
  refine s_lload X0 hx (hb hby d7_51) rfl 53 rfl ?_
  refine s_l2d X0 hx (hb hby d7_53) (FP.l2d (((y3 * t2) + (y4 * t5)) + (y5 * t8))) rfl 54 rfl ?_
  refine s_dcmp X0 hx (hb hby d7_54) (0 : Int32) (by rw [show FP.dcmp x5 (FP.l2d (((y3 * t2) + (y4 * t5)) + (y5 * t8))) = some .eq from hq]; rfl) 55 rfl ?_
  refine s_ifN X0 hx (hb hby d7_55) (by decide) 58 rfl ?_
  refine s_iconst X0 hx (hb hby d7_58) (1 : Int32) rfl 59 rfl ?_
  refine s_goto X0 hx (hb hby d7_59) 63 (by decide) (by decide) ?_
  exact retZ X0 hx hlk hret (hb hby d7_63) (by decide) e0 ⟨rfl, N0, rfl⟩ (by decide) (by decide)
set_option maxRecDepth 65536 in
set_option maxHeartbeats 40000000 in
theorem rm_en20 (l : Launch) (Z : State) (a0 : Array Value) (hw : ∀ d ∈ tables_1, d.before a0 Z = true) (ws : List Jvm.Cond) (a1 a2 a3 : Addr) (k1 k2 k3 : ClassId) (x0 x1 x2 x3 x4 x5 x6 x7 x8 : UInt64) (y0 y1 y2 y3 y4 y5 y6 y7 y8 t0 t1 t2 t3 t4 t5 t6 t7 t8 : Int64) (h0 : Heap) (n0 : Nat) (Z0 : n0 ≤ h0.size) (A1 : AR Z h0 a1 k1 .double [.double x0, .double x1, .double x2, .double x3, .double x4, .double x5, .double x6, .double x7, .double x8]) (A2 : AR Z h0 a2 k2 .long [.long y0, .long y1, .long y2, .long y3, .long y4, .long y5, .long y6, .long y7, .long y8]) (A3 : AR Z h0 a3 k3 .long [.long t0, .long t1, .long t2, .long t3, .long t4, .long t5, .long t6, .long t7, .long t8]) (hq : FP.dcmp x6 (FP.l2d (y6 * t0 + y7 * t3 + y8 * t6)) = some .eq) :
    Ct l Z (⟨"com/example/twelvefold/twelvefold/FrameTransformMatrixTimesPinLaw", "entry", "([D[J[JII)Z"⟩ : MethodName) method_3_code 7 (some .boolean) ws ({ frames := 0, cells := 0, slots := 0, locals := 0 } : Room) #[.ref a1, .ref a2, .ref a3, .int (2 : Int32), .int (0 : Int32)] h0 (fun v h L => v = some (.int 1) ∧ Fr n0 L ∧ h = h0) := by
  refine Ct.intro pn_7 #[.val (.ref a1), .val (.ref a2), .val (.ref a3), .val (.int (2 : Int32)), .val (.int (0 : Int32)), .unset, .unset] (fun _ => by first | (simp [entryFrame, mkF, argsToLocals, Value.category, maxLocals]; done) | rfl) ?_
  intro p e s m below meth c T0 X0 hx hZ hby hml hown hnm hret hlk e0
  have N0 := Fr.nil n0
  refine s_aloadN X0 hx (hb hby d7_0) rfl rfl 1 rfl ?_
  refine s_iconst X0 hx (hb hby d7_1) (3 : Int32) rfl 2 rfl ?_
  refine s_iloadN X0 hx (hb hby d7_2) rfl 3 rfl ?_
  refine s_imul X0 hx (hb hby d7_3) (6 : Int32) rfl 4 rfl ?_
  refine s_laload X0 hx hZ e0 A2 (hb hby d7_4) (j := (6 : Int32)) 6 (by decide) (.long y6) rfl 5 rfl ?_
  refine s_aloadN X0 hx (hb hby d7_5) rfl rfl 6 rfl ?_
  refine s_iload X0 hx (hb hby d7_6) rfl 8 rfl ?_
  refine s_laload X0 hx hZ e0 A3 (hb hby d7_8) (j := (0 : Int32)) 0 (by decide) (.long t0) rfl 9 rfl ?_
  refine s_lmul X0 hx (hb hby d7_9) (y6 * t0) rfl 10 rfl ?_
  refine s_aloadN X0 hx (hb hby d7_10) rfl rfl 11 rfl ?_
  refine s_iconst X0 hx (hb hby d7_11) (3 : Int32) rfl 12 rfl ?_
  refine s_iloadN X0 hx (hb hby d7_12) rfl 13 rfl ?_
  refine s_imul X0 hx (hb hby d7_13) (6 : Int32) rfl 14 rfl ?_
  refine s_iconst X0 hx (hb hby d7_14) (1 : Int32) rfl 15 rfl ?_
  refine s_iadd X0 hx (hb hby d7_15) (7 : Int32) rfl 16 rfl ?_
  refine s_laload X0 hx hZ e0 A2 (hb hby d7_16) (j := (7 : Int32)) 7 (by decide) (.long y7) rfl 17 rfl ?_
  refine s_aloadN X0 hx (hb hby d7_17) rfl rfl 18 rfl ?_
  refine s_iconst X0 hx (hb hby d7_18) (3 : Int32) rfl 19 rfl ?_
  refine s_iload X0 hx (hb hby d7_19) rfl 21 rfl ?_
  refine s_iadd X0 hx (hb hby d7_21) (3 : Int32) rfl 22 rfl ?_
  refine s_laload X0 hx hZ e0 A3 (hb hby d7_22) (j := (3 : Int32)) 3 (by decide) (.long t3) rfl 23 rfl ?_
  refine s_lmul X0 hx (hb hby d7_23) (y7 * t3) rfl 24 rfl ?_
  refine s_ladd X0 hx (hb hby d7_24) ((y6 * t0) + (y7 * t3)) rfl 25 rfl ?_
  refine s_aloadN X0 hx (hb hby d7_25) rfl rfl 26 rfl ?_
  refine s_iconst X0 hx (hb hby d7_26) (3 : Int32) rfl 27 rfl ?_
  refine s_iloadN X0 hx (hb hby d7_27) rfl 28 rfl ?_
  refine s_imul X0 hx (hb hby d7_28) (6 : Int32) rfl 29 rfl ?_
  refine s_iconst X0 hx (hb hby d7_29) (2 : Int32) rfl 30 rfl ?_
  refine s_iadd X0 hx (hb hby d7_30) (8 : Int32) rfl 31 rfl ?_
  refine s_laload X0 hx hZ e0 A2 (hb hby d7_31) (j := (8 : Int32)) 8 (by decide) (.long y8) rfl 32 rfl ?_
  refine s_aloadN X0 hx (hb hby d7_32) rfl rfl 33 rfl ?_
  refine s_bipush X0 hx (hb hby d7_33) (6 : Int32) rfl 35 rfl ?_
  refine s_iload X0 hx (hb hby d7_35) rfl 37 rfl ?_
  refine s_iadd X0 hx (hb hby d7_37) (6 : Int32) rfl 38 rfl ?_
  refine s_laload X0 hx hZ e0 A3 (hb hby d7_38) (j := (6 : Int32)) 6 (by decide) (.long t6) rfl 39 rfl ?_
  refine s_lmul X0 hx (hb hby d7_39) (y8 * t6) rfl 40 rfl ?_
  refine s_ladd X0 hx (hb hby d7_40) (((y6 * t0) + (y7 * t3)) + (y8 * t6)) rfl 41 rfl ?_
  refine s_lstore X0 hx (hb hby d7_41) #[.val (.ref a1), .val (.ref a2), .val (.ref a3), .val (.int (2 : Int32)), .val (.int (0 : Int32)), .val (.long (((y6 * t0) + (y7 * t3)) + (y8 * t6))), .second] rfl 43 rfl ?_
  refine s_aloadN X0 hx (hb hby d7_43) rfl rfl 44 rfl ?_
  refine s_iconst X0 hx (hb hby d7_44) (3 : Int32) rfl 45 rfl ?_
  refine s_iloadN X0 hx (hb hby d7_45) rfl 46 rfl ?_
  refine s_imul X0 hx (hb hby d7_46) (6 : Int32) rfl 47 rfl ?_
  refine s_iload X0 hx (hb hby d7_47) rfl 49 rfl ?_
  refine s_iadd X0 hx (hb hby d7_49) (6 : Int32) rfl 50 rfl ?_
  refine s_daload X0 hx hZ e0 A1 (hb hby d7_50) (j := (6 : Int32)) 6 (by decide) (.double x6) rfl 51 rfl ?_
  refine s_lload X0 hx (hb hby d7_51) rfl 53 rfl ?_
  refine s_l2d X0 hx (hb hby d7_53) (FP.l2d (((y6 * t0) + (y7 * t3)) + (y8 * t6))) rfl 54 rfl ?_
  refine s_dcmp X0 hx (hb hby d7_54) (0 : Int32) (by rw [show FP.dcmp x6 (FP.l2d (((y6 * t0) + (y7 * t3)) + (y8 * t6))) = some .eq from hq]; rfl) 55 rfl ?_
  refine s_ifN X0 hx (hb hby d7_55) (by decide) 58 rfl ?_
  refine s_iconst X0 hx (hb hby d7_58) (1 : Int32) rfl 59 rfl ?_
  refine s_goto X0 hx (hb hby d7_59) 63 (by decide) (by decide) ?_
  exact retZ X0 hx hlk hret (hb hby d7_63) (by decide) e0 ⟨rfl, N0, rfl⟩ (by decide) (by decide)
set_option maxRecDepth 65536 in
set_option maxHeartbeats 40000000 in
theorem rm_en21 (l : Launch) (Z : State) (a0 : Array Value) (hw : ∀ d ∈ tables_1, d.before a0 Z = true) (ws : List Jvm.Cond) (a1 a2 a3 : Addr) (k1 k2 k3 : ClassId) (x0 x1 x2 x3 x4 x5 x6 x7 x8 : UInt64) (y0 y1 y2 y3 y4 y5 y6 y7 y8 t0 t1 t2 t3 t4 t5 t6 t7 t8 : Int64) (h0 : Heap) (n0 : Nat) (Z0 : n0 ≤ h0.size) (A1 : AR Z h0 a1 k1 .double [.double x0, .double x1, .double x2, .double x3, .double x4, .double x5, .double x6, .double x7, .double x8]) (A2 : AR Z h0 a2 k2 .long [.long y0, .long y1, .long y2, .long y3, .long y4, .long y5, .long y6, .long y7, .long y8]) (A3 : AR Z h0 a3 k3 .long [.long t0, .long t1, .long t2, .long t3, .long t4, .long t5, .long t6, .long t7, .long t8]) (hq : FP.dcmp x7 (FP.l2d (y6 * t1 + y7 * t4 + y8 * t7)) = some .eq) :
    Ct l Z (⟨"com/example/twelvefold/twelvefold/FrameTransformMatrixTimesPinLaw", "entry", "([D[J[JII)Z"⟩ : MethodName) method_3_code 7 (some .boolean) ws ({ frames := 0, cells := 0, slots := 0, locals := 0 } : Room) #[.ref a1, .ref a2, .ref a3, .int (2 : Int32), .int (1 : Int32)] h0 (fun v h L => v = some (.int 1) ∧ Fr n0 L ∧ h = h0) := by
  refine Ct.intro pn_7 #[.val (.ref a1), .val (.ref a2), .val (.ref a3), .val (.int (2 : Int32)), .val (.int (1 : Int32)), .unset, .unset] (fun _ => by first | (simp [entryFrame, mkF, argsToLocals, Value.category, maxLocals]; done) | rfl) ?_
  intro p e s m below meth c T0 X0 hx hZ hby hml hown hnm hret hlk e0
  have N0 := Fr.nil n0
  refine s_aloadN X0 hx (hb hby d7_0) rfl rfl 1 rfl ?_
  refine s_iconst X0 hx (hb hby d7_1) (3 : Int32) rfl 2 rfl ?_
  refine s_iloadN X0 hx (hb hby d7_2) rfl 3 rfl ?_
  refine s_imul X0 hx (hb hby d7_3) (6 : Int32) rfl 4 rfl ?_
  refine s_laload X0 hx hZ e0 A2 (hb hby d7_4) (j := (6 : Int32)) 6 (by decide) (.long y6) rfl 5 rfl ?_
  refine s_aloadN X0 hx (hb hby d7_5) rfl rfl 6 rfl ?_
  refine s_iload X0 hx (hb hby d7_6) rfl 8 rfl ?_
  refine s_laload X0 hx hZ e0 A3 (hb hby d7_8) (j := (1 : Int32)) 1 (by decide) (.long t1) rfl 9 rfl ?_
  refine s_lmul X0 hx (hb hby d7_9) (y6 * t1) rfl 10 rfl ?_
  refine s_aloadN X0 hx (hb hby d7_10) rfl rfl 11 rfl ?_
  refine s_iconst X0 hx (hb hby d7_11) (3 : Int32) rfl 12 rfl ?_
  refine s_iloadN X0 hx (hb hby d7_12) rfl 13 rfl ?_
  refine s_imul X0 hx (hb hby d7_13) (6 : Int32) rfl 14 rfl ?_
  refine s_iconst X0 hx (hb hby d7_14) (1 : Int32) rfl 15 rfl ?_
  refine s_iadd X0 hx (hb hby d7_15) (7 : Int32) rfl 16 rfl ?_
  refine s_laload X0 hx hZ e0 A2 (hb hby d7_16) (j := (7 : Int32)) 7 (by decide) (.long y7) rfl 17 rfl ?_
  refine s_aloadN X0 hx (hb hby d7_17) rfl rfl 18 rfl ?_
  refine s_iconst X0 hx (hb hby d7_18) (3 : Int32) rfl 19 rfl ?_
  refine s_iload X0 hx (hb hby d7_19) rfl 21 rfl ?_
  refine s_iadd X0 hx (hb hby d7_21) (4 : Int32) rfl 22 rfl ?_
  refine s_laload X0 hx hZ e0 A3 (hb hby d7_22) (j := (4 : Int32)) 4 (by decide) (.long t4) rfl 23 rfl ?_
  refine s_lmul X0 hx (hb hby d7_23) (y7 * t4) rfl 24 rfl ?_
  refine s_ladd X0 hx (hb hby d7_24) ((y6 * t1) + (y7 * t4)) rfl 25 rfl ?_
  refine s_aloadN X0 hx (hb hby d7_25) rfl rfl 26 rfl ?_
  refine s_iconst X0 hx (hb hby d7_26) (3 : Int32) rfl 27 rfl ?_
  refine s_iloadN X0 hx (hb hby d7_27) rfl 28 rfl ?_
  refine s_imul X0 hx (hb hby d7_28) (6 : Int32) rfl 29 rfl ?_
  refine s_iconst X0 hx (hb hby d7_29) (2 : Int32) rfl 30 rfl ?_
  refine s_iadd X0 hx (hb hby d7_30) (8 : Int32) rfl 31 rfl ?_
  refine s_laload X0 hx hZ e0 A2 (hb hby d7_31) (j := (8 : Int32)) 8 (by decide) (.long y8) rfl 32 rfl ?_
  refine s_aloadN X0 hx (hb hby d7_32) rfl rfl 33 rfl ?_
  refine s_bipush X0 hx (hb hby d7_33) (6 : Int32) rfl 35 rfl ?_
  refine s_iload X0 hx (hb hby d7_35) rfl 37 rfl ?_
  refine s_iadd X0 hx (hb hby d7_37) (7 : Int32) rfl 38 rfl ?_
  refine s_laload X0 hx hZ e0 A3 (hb hby d7_38) (j := (7 : Int32)) 7 (by decide) (.long t7) rfl 39 rfl ?_
  refine s_lmul X0 hx (hb hby d7_39) (y8 * t7) rfl 40 rfl ?_
  refine s_ladd X0 hx (hb hby d7_40) (((y6 * t1) + (y7 * t4)) + (y8 * t7)) rfl 41 rfl ?_
  refine s_lstore X0 hx (hb hby d7_41) #[.val (.ref a1), .val (.ref a2), .val (.ref a3), .val (.int (2 : Int32)), .val (.int (1 : Int32)), .val (.long (((y6 * t1) + (y7 * t4)) + (y8 * t7))), .second] rfl 43 rfl ?_
  refine s_aloadN X0 hx (hb hby d7_43) rfl rfl 44 rfl ?_
  refine s_iconst X0 hx (hb hby d7_44) (3 : Int32) rfl 45 rfl ?_
  refine s_iloadN X0 hx (hb hby d7_45) rfl 46 rfl ?_
  refine s_imul X0 hx (hb hby d7_46) (6 : Int32) rfl 47 rfl ?_
  refine s_iload X0 hx (hb hby d7_47) rfl 49 rfl ?_
  refine s_iadd X0 hx (hb hby d7_49) (7 : Int32) rfl 50 rfl ?_
  refine s_daload X0 hx hZ e0 A1 (hb hby d7_50) (j := (7 : Int32)) 7 (by decide) (.double x7) rfl 51 rfl ?_
  refine s_lload X0 hx (hb hby d7_51) rfl 53 rfl ?_
  refine s_l2d X0 hx (hb hby d7_53) (FP.l2d (((y6 * t1) + (y7 * t4)) + (y8 * t7))) rfl 54 rfl ?_
  refine s_dcmp X0 hx (hb hby d7_54) (0 : Int32) (by rw [show FP.dcmp x7 (FP.l2d (((y6 * t1) + (y7 * t4)) + (y8 * t7))) = some .eq from hq]; rfl) 55 rfl ?_
  refine s_ifN X0 hx (hb hby d7_55) (by decide) 58 rfl ?_
  refine s_iconst X0 hx (hb hby d7_58) (1 : Int32) rfl 59 rfl ?_
  refine s_goto X0 hx (hb hby d7_59) 63 (by decide) (by decide) ?_
  exact retZ X0 hx hlk hret (hb hby d7_63) (by decide) e0 ⟨rfl, N0, rfl⟩ (by decide) (by decide)
set_option maxRecDepth 65536 in
set_option maxHeartbeats 40000000 in
theorem rm_en22 (l : Launch) (Z : State) (a0 : Array Value) (hw : ∀ d ∈ tables_1, d.before a0 Z = true) (ws : List Jvm.Cond) (a1 a2 a3 : Addr) (k1 k2 k3 : ClassId) (x0 x1 x2 x3 x4 x5 x6 x7 x8 : UInt64) (y0 y1 y2 y3 y4 y5 y6 y7 y8 t0 t1 t2 t3 t4 t5 t6 t7 t8 : Int64) (h0 : Heap) (n0 : Nat) (Z0 : n0 ≤ h0.size) (A1 : AR Z h0 a1 k1 .double [.double x0, .double x1, .double x2, .double x3, .double x4, .double x5, .double x6, .double x7, .double x8]) (A2 : AR Z h0 a2 k2 .long [.long y0, .long y1, .long y2, .long y3, .long y4, .long y5, .long y6, .long y7, .long y8]) (A3 : AR Z h0 a3 k3 .long [.long t0, .long t1, .long t2, .long t3, .long t4, .long t5, .long t6, .long t7, .long t8]) (hq : FP.dcmp x8 (FP.l2d (y6 * t2 + y7 * t5 + y8 * t8)) = some .eq) :
    Ct l Z (⟨"com/example/twelvefold/twelvefold/FrameTransformMatrixTimesPinLaw", "entry", "([D[J[JII)Z"⟩ : MethodName) method_3_code 7 (some .boolean) ws ({ frames := 0, cells := 0, slots := 0, locals := 0 } : Room) #[.ref a1, .ref a2, .ref a3, .int (2 : Int32), .int (2 : Int32)] h0 (fun v h L => v = some (.int 1) ∧ Fr n0 L ∧ h = h0) := by
  refine Ct.intro pn_7 #[.val (.ref a1), .val (.ref a2), .val (.ref a3), .val (.int (2 : Int32)), .val (.int (2 : Int32)), .unset, .unset] (fun _ => by first | (simp [entryFrame, mkF, argsToLocals, Value.category, maxLocals]; done) | rfl) ?_
  intro p e s m below meth c T0 X0 hx hZ hby hml hown hnm hret hlk e0
  have N0 := Fr.nil n0
  refine s_aloadN X0 hx (hb hby d7_0) rfl rfl 1 rfl ?_
  refine s_iconst X0 hx (hb hby d7_1) (3 : Int32) rfl 2 rfl ?_
  refine s_iloadN X0 hx (hb hby d7_2) rfl 3 rfl ?_
  refine s_imul X0 hx (hb hby d7_3) (6 : Int32) rfl 4 rfl ?_
  refine s_laload X0 hx hZ e0 A2 (hb hby d7_4) (j := (6 : Int32)) 6 (by decide) (.long y6) rfl 5 rfl ?_
  refine s_aloadN X0 hx (hb hby d7_5) rfl rfl 6 rfl ?_
  refine s_iload X0 hx (hb hby d7_6) rfl 8 rfl ?_
  refine s_laload X0 hx hZ e0 A3 (hb hby d7_8) (j := (2 : Int32)) 2 (by decide) (.long t2) rfl 9 rfl ?_
  refine s_lmul X0 hx (hb hby d7_9) (y6 * t2) rfl 10 rfl ?_
  refine s_aloadN X0 hx (hb hby d7_10) rfl rfl 11 rfl ?_
  refine s_iconst X0 hx (hb hby d7_11) (3 : Int32) rfl 12 rfl ?_
  refine s_iloadN X0 hx (hb hby d7_12) rfl 13 rfl ?_
  refine s_imul X0 hx (hb hby d7_13) (6 : Int32) rfl 14 rfl ?_
  refine s_iconst X0 hx (hb hby d7_14) (1 : Int32) rfl 15 rfl ?_
  refine s_iadd X0 hx (hb hby d7_15) (7 : Int32) rfl 16 rfl ?_
  refine s_laload X0 hx hZ e0 A2 (hb hby d7_16) (j := (7 : Int32)) 7 (by decide) (.long y7) rfl 17 rfl ?_
  refine s_aloadN X0 hx (hb hby d7_17) rfl rfl 18 rfl ?_
  refine s_iconst X0 hx (hb hby d7_18) (3 : Int32) rfl 19 rfl ?_
  refine s_iload X0 hx (hb hby d7_19) rfl 21 rfl ?_
  refine s_iadd X0 hx (hb hby d7_21) (5 : Int32) rfl 22 rfl ?_
  refine s_laload X0 hx hZ e0 A3 (hb hby d7_22) (j := (5 : Int32)) 5 (by decide) (.long t5) rfl 23 rfl ?_
  refine s_lmul X0 hx (hb hby d7_23) (y7 * t5) rfl 24 rfl ?_
  refine s_ladd X0 hx (hb hby d7_24) ((y6 * t2) + (y7 * t5)) rfl 25 rfl ?_
  refine s_aloadN X0 hx (hb hby d7_25) rfl rfl 26 rfl ?_
  refine s_iconst X0 hx (hb hby d7_26) (3 : Int32) rfl 27 rfl ?_
  refine s_iloadN X0 hx (hb hby d7_27) rfl 28 rfl ?_
  refine s_imul X0 hx (hb hby d7_28) (6 : Int32) rfl 29 rfl ?_
  refine s_iconst X0 hx (hb hby d7_29) (2 : Int32) rfl 30 rfl ?_
  refine s_iadd X0 hx (hb hby d7_30) (8 : Int32) rfl 31 rfl ?_
  refine s_laload X0 hx hZ e0 A2 (hb hby d7_31) (j := (8 : Int32)) 8 (by decide) (.long y8) rfl 32 rfl ?_
  refine s_aloadN X0 hx (hb hby d7_32) rfl rfl 33 rfl ?_
  refine s_bipush X0 hx (hb hby d7_33) (6 : Int32) rfl 35 rfl ?_
  refine s_iload X0 hx (hb hby d7_35) rfl 37 rfl ?_
  refine s_iadd X0 hx (hb hby d7_37) (8 : Int32) rfl 38 rfl ?_
  refine s_laload X0 hx hZ e0 A3 (hb hby d7_38) (j := (8 : Int32)) 8 (by decide) (.long t8) rfl 39 rfl ?_
  refine s_lmul X0 hx (hb hby d7_39) (y8 * t8) rfl 40 rfl ?_
  refine s_ladd X0 hx (hb hby d7_40) (((y6 * t2) + (y7 * t5)) + (y8 * t8)) rfl 41 rfl ?_
  refine s_lstore X0 hx (hb hby d7_41) #[.val (.ref a1), .val (.ref a2), .val (.ref a3), .val (.int (2 : Int32)), .val (.int (2 : Int32)), .val (.long (((y6 * t2) + (y7 * t5)) + (y8 * t8))), .second] rfl 43 rfl ?_
  refine s_aloadN X0 hx (hb hby d7_43) rfl rfl 44 rfl ?_
  refine s_iconst X0 hx (hb hby d7_44) (3 : Int32) rfl 45 rfl ?_
  refine s_iloadN X0 hx (hb hby d7_45) rfl 46 rfl ?_
  refine s_imul X0 hx (hb hby d7_46) (6 : Int32) rfl 47 rfl ?_
  refine s_iload X0 hx (hb hby d7_47) rfl 49 rfl ?_
  refine s_iadd X0 hx (hb hby d7_49) (8 : Int32) rfl 50 rfl ?_
  refine s_daload X0 hx hZ e0 A1 (hb hby d7_50) (j := (8 : Int32)) 8 (by decide) (.double x8) rfl 51 rfl ?_
  refine s_lload X0 hx (hb hby d7_51) rfl 53 rfl ?_
  refine s_l2d X0 hx (hb hby d7_53) (FP.l2d (((y6 * t2) + (y7 * t5)) + (y8 * t8))) rfl 54 rfl ?_
  refine s_dcmp X0 hx (hb hby d7_54) (0 : Int32) (by rw [show FP.dcmp x8 (FP.l2d (((y6 * t2) + (y7 * t5)) + (y8 * t8))) = some .eq from hq]; rfl) 55 rfl ?_
  refine s_ifN X0 hx (hb hby d7_55) (by decide) 58 rfl ?_
  refine s_iconst X0 hx (hb hby d7_58) (1 : Int32) rfl 59 rfl ?_
  refine s_goto X0 hx (hb hby d7_59) 63 (by decide) (by decide) ?_
  exact retZ X0 hx hlk hret (hb hby d7_63) (by decide) e0 ⟨rfl, N0, rfl⟩ (by decide) (by decide)
set_option maxRecDepth 65536 in
set_option maxHeartbeats 40000000 in
theorem rm_law (l : Launch) (Z : State) (a0 : Array Value) (hw : ∀ d ∈ tables_1, d.before a0 Z = true) (ws : List Jvm.Cond) (i0 i1 i2 i3 i4 i5 : Int64) (h0 : Heap) (n0 : Nat) (Z0 : n0 ≤ h0.size)  :
    Ct l Z x code maxLocals ret ws room_1 #[.long i0, .long i1, .long i2, .long i3, .long i4, .long i5] h0 (fun v h L => v = some (.int 1) ∧ Fr n0 L) := by
  refine Ct.intro pn_law #[.val (.long i0), .second, .val (.long i1), .second, .val (.long i2), .second, .val (.long i3), .second, .val (.long i4), .second, .val (.long i5), .second, .unset, .unset, .unset, .unset, .unset, .unset, .unset, .unset] (fun _ => by first | (simp [entryFrame, mkF, argsToLocals, Value.category, maxLocals]; done) | rfl) ?_
  intro p e s m below meth c T0 X0 hx hZ hby hml hown hnm hret hlk e0
  have N0 := Fr.nil n0
  refine s_bipush X0 hx (hb hby at_0) (9 : Int32) rfl 2 rfl ?_
  obtain ⟨T330, h330, c330, X330, e330, E330, A330, st330⟩ := s_newarray X0 hx hZ (aty := .long) (wd hw 0 _ rfl) e0 (hb hby at_2) #[.val (.long i0), .second, .val (.long i1), .second, .val (.long i2), .second, .val (.long i3), .second, .val (.long i4), .second, .val (.long i5), .second, .unset, .unset, .unset, .unset, .unset, .unset, .unset, .unset] [] (n := (9 : Int32)) 9 (by decide) [.long (0 : Int64), .long (0 : Int64), .long (0 : Int64), .long (0 : Int64), .long (0 : Int64), .long (0 : Int64), .long (0 : Int64), .long (0 : Int64), .long (0 : Int64)] rfl (by decide) (by decide) (by decide) 4 rfl
  obtain ⟨a330, g330⟩ : ∃ z, z = h0.size := ⟨_, rfl⟩
  rw [← g330] at A330 st330
  have q331 : n0 ≤ a330 := by rw [g330]; exact Z0
  have Z332 := Nat.le_trans Z0 E330.1
  refine Go.via st330 ?_
  refine s_dup X330 hx (hb hby at_4) rfl 5 rfl ?_
  refine s_iconst X330 hx (hb hby at_5) (0 : Int32) rfl 6 rfl ?_
  refine s_lloadN X330 hx (hb hby at_6) rfl 7 rfl ?_
  refine s_iconst X330 hx (hb hby at_7) (0 : Int32) rfl 8 rfl ?_
  obtain ⟨v333, T333, L333, X333, hQ333, st333⟩ := callStat X330 hx hZ hown (wd hw 1 _ rfl) (wd hw 2 _ rfl) (wd hw 3 _ rfl) (wd hw 4 _ rfl) (by decide) (rm_part l Z a0 hw [] i0 (0 : Int32) h330 n0 Z332) e330 (L := #[.val (.long i0), .second, .val (.long i1), .second, .val (.long i2), .second, .val (.long i3), .second, .val (.long i4), .second, .val (.long i5), .second, .unset, .unset, .unset, .unset, .unset, .unset, .unset, .unset]) (hb hby at_8) (by rw [hml]; rfl) [.long i0, .int (0 : Int32)] [.int (0 : Int32), .ref a330, .ref a330] rfl rfl pd_0 rfl 3 (by show 2 * 0 + _ ≤ _; exact Nat.le_of_eq rfl) (by decide) (by decide) (by decide) (by decide)
  obtain ⟨z333, rfl, B333, N333, hh333⟩ := hQ333
  have M333 := Fr.app N0 N333
  refine Go.via st333 ?_
  show Go p e below _ (T333.setTop (mkF m 11 #[.val (.long i0), .second, .val (.long i1), .second, .val (.long i2), .second, .val (.long i3), .second, .val (.long i4), .second, .val (.long i5), .second, .unset, .unset, .unset, .unset, .unset, .unset, .unset, .unset] [.long z333, .int (0 : Int32), .ref a330, .ref a330]))
  obtain ⟨T334, h334, X334, e334, W334, A334, st334⟩ := s_lastore X333 hx hZ hh333 A330 (hb hby at_11) #[.val (.long i0), .second, .val (.long i1), .second, .val (.long i2), .second, .val (.long i3), .second, .val (.long i4), .second, .val (.long i5), .second, .unset, .unset, .unset, .unset, .unset, .unset, .unset, .unset] [.ref a330] (j := (0 : Int32)) 0 (by decide) (by show 0 < 9; decide) z333 [.long z333, .long (0 : Int64), .long (0 : Int64), .long (0 : Int64), .long (0 : Int64), .long (0 : Int64), .long (0 : Int64), .long (0 : Int64), .long (0 : Int64)] rfl 12 rfl
  have N334 := Fr.snoc X334 M333 q331
  have Z335 : n0 ≤ h334.size := by rw [W334.size]; exact Z332
  refine Go.via st334 ?_
  refine s_dup X334 hx (hb hby at_12) rfl 13 rfl ?_
  refine s_iconst X334 hx (hb hby at_13) (1 : Int32) rfl 14 rfl ?_
  refine s_lloadN X334 hx (hb hby at_14) rfl 15 rfl ?_
  refine s_iconst X334 hx (hb hby at_15) (1 : Int32) rfl 16 rfl ?_
  obtain ⟨v336, T336, L336, X336, hQ336, st336⟩ := callStat X334 hx hZ hown (wd hw 1 _ rfl) (wd hw 2 _ rfl) (wd hw 3 _ rfl) (wd hw 4 _ rfl) (by decide) (rm_part l Z a0 hw [] i0 (1 : Int32) h334 n0 Z335) e334 (L := #[.val (.long i0), .second, .val (.long i1), .second, .val (.long i2), .second, .val (.long i3), .second, .val (.long i4), .second, .val (.long i5), .second, .unset, .unset, .unset, .unset, .unset, .unset, .unset, .unset]) (hb hby at_16) (by rw [hml]; rfl) [.long i0, .int (1 : Int32)] [.int (1 : Int32), .ref a330, .ref a330] rfl rfl pd_0 rfl 3 (by show 2 * 0 + _ ≤ _; exact Nat.le_of_eq rfl) (by decide) (by decide) (by decide) (by decide)
  obtain ⟨z336, rfl, B336, N336, hh336⟩ := hQ336
  have M336 := Fr.app N334 N336
  refine Go.via st336 ?_
  show Go p e below _ (T336.setTop (mkF m 19 #[.val (.long i0), .second, .val (.long i1), .second, .val (.long i2), .second, .val (.long i3), .second, .val (.long i4), .second, .val (.long i5), .second, .unset, .unset, .unset, .unset, .unset, .unset, .unset, .unset] [.long z336, .int (1 : Int32), .ref a330, .ref a330]))
  obtain ⟨T337, h337, X337, e337, W337, A337, st337⟩ := s_lastore X336 hx hZ hh336 A334 (hb hby at_19) #[.val (.long i0), .second, .val (.long i1), .second, .val (.long i2), .second, .val (.long i3), .second, .val (.long i4), .second, .val (.long i5), .second, .unset, .unset, .unset, .unset, .unset, .unset, .unset, .unset] [.ref a330] (j := (1 : Int32)) 1 (by decide) (by show 1 < 9; decide) z336 [.long z333, .long z336, .long (0 : Int64), .long (0 : Int64), .long (0 : Int64), .long (0 : Int64), .long (0 : Int64), .long (0 : Int64), .long (0 : Int64)] rfl 20 rfl
  have N337 := Fr.snoc X337 M336 q331
  have Z338 : n0 ≤ h337.size := by rw [W337.size]; exact Z335
  refine Go.via st337 ?_
  refine s_dup X337 hx (hb hby at_20) rfl 21 rfl ?_
  refine s_iconst X337 hx (hb hby at_21) (2 : Int32) rfl 22 rfl ?_
  refine s_lloadN X337 hx (hb hby at_22) rfl 23 rfl ?_
  refine s_iconst X337 hx (hb hby at_23) (2 : Int32) rfl 24 rfl ?_
  obtain ⟨v339, T339, L339, X339, hQ339, st339⟩ := callStat X337 hx hZ hown (wd hw 1 _ rfl) (wd hw 2 _ rfl) (wd hw 3 _ rfl) (wd hw 4 _ rfl) (by decide) (rm_part l Z a0 hw [] i0 (2 : Int32) h337 n0 Z338) e337 (L := #[.val (.long i0), .second, .val (.long i1), .second, .val (.long i2), .second, .val (.long i3), .second, .val (.long i4), .second, .val (.long i5), .second, .unset, .unset, .unset, .unset, .unset, .unset, .unset, .unset]) (hb hby at_24) (by rw [hml]; rfl) [.long i0, .int (2 : Int32)] [.int (2 : Int32), .ref a330, .ref a330] rfl rfl pd_0 rfl 3 (by show 2 * 0 + _ ≤ _; exact Nat.le_of_eq rfl) (by decide) (by decide) (by decide) (by decide)
  obtain ⟨z339, rfl, B339, N339, hh339⟩ := hQ339
  have M339 := Fr.app N337 N339
  refine Go.via st339 ?_
  show Go p e below _ (T339.setTop (mkF m 27 #[.val (.long i0), .second, .val (.long i1), .second, .val (.long i2), .second, .val (.long i3), .second, .val (.long i4), .second, .val (.long i5), .second, .unset, .unset, .unset, .unset, .unset, .unset, .unset, .unset] [.long z339, .int (2 : Int32), .ref a330, .ref a330]))
  obtain ⟨T340, h340, X340, e340, W340, A340, st340⟩ := s_lastore X339 hx hZ hh339 A337 (hb hby at_27) #[.val (.long i0), .second, .val (.long i1), .second, .val (.long i2), .second, .val (.long i3), .second, .val (.long i4), .second, .val (.long i5), .second, .unset, .unset, .unset, .unset, .unset, .unset, .unset, .unset] [.ref a330] (j := (2 : Int32)) 2 (by decide) (by show 2 < 9; decide) z339 [.long z333, .long z336, .long z339, .long (0 : Int64), .long (0 : Int64), .long (0 : Int64), .long (0 : Int64), .long (0 : Int64), .long (0 : Int64)] rfl 28 rfl
  have N340 := Fr.snoc X340 M339 q331
  have Z341 : n0 ≤ h340.size := by rw [W340.size]; exact Z338
  refine Go.via st340 ?_
  refine s_dup X340 hx (hb hby at_28) rfl 29 rfl ?_
  refine s_iconst X340 hx (hb hby at_29) (3 : Int32) rfl 30 rfl ?_
  refine s_lloadN X340 hx (hb hby at_30) rfl 31 rfl ?_
  refine s_iconst X340 hx (hb hby at_31) (0 : Int32) rfl 32 rfl ?_
  obtain ⟨v342, T342, L342, X342, hQ342, st342⟩ := callStat X340 hx hZ hown (wd hw 1 _ rfl) (wd hw 2 _ rfl) (wd hw 3 _ rfl) (wd hw 4 _ rfl) (by decide) (rm_part l Z a0 hw [] i1 (0 : Int32) h340 n0 Z341) e340 (L := #[.val (.long i0), .second, .val (.long i1), .second, .val (.long i2), .second, .val (.long i3), .second, .val (.long i4), .second, .val (.long i5), .second, .unset, .unset, .unset, .unset, .unset, .unset, .unset, .unset]) (hb hby at_32) (by rw [hml]; rfl) [.long i1, .int (0 : Int32)] [.int (3 : Int32), .ref a330, .ref a330] rfl rfl pd_0 rfl 3 (by show 2 * 0 + _ ≤ _; exact Nat.le_of_eq rfl) (by decide) (by decide) (by decide) (by decide)
  obtain ⟨z342, rfl, B342, N342, hh342⟩ := hQ342
  have M342 := Fr.app N340 N342
  refine Go.via st342 ?_
  show Go p e below _ (T342.setTop (mkF m 35 #[.val (.long i0), .second, .val (.long i1), .second, .val (.long i2), .second, .val (.long i3), .second, .val (.long i4), .second, .val (.long i5), .second, .unset, .unset, .unset, .unset, .unset, .unset, .unset, .unset] [.long z342, .int (3 : Int32), .ref a330, .ref a330]))
  obtain ⟨T343, h343, X343, e343, W343, A343, st343⟩ := s_lastore X342 hx hZ hh342 A340 (hb hby at_35) #[.val (.long i0), .second, .val (.long i1), .second, .val (.long i2), .second, .val (.long i3), .second, .val (.long i4), .second, .val (.long i5), .second, .unset, .unset, .unset, .unset, .unset, .unset, .unset, .unset] [.ref a330] (j := (3 : Int32)) 3 (by decide) (by show 3 < 9; decide) z342 [.long z333, .long z336, .long z339, .long z342, .long (0 : Int64), .long (0 : Int64), .long (0 : Int64), .long (0 : Int64), .long (0 : Int64)] rfl 36 rfl
  have N343 := Fr.snoc X343 M342 q331
  have Z344 : n0 ≤ h343.size := by rw [W343.size]; exact Z341
  refine Go.via st343 ?_
  refine s_dup X343 hx (hb hby at_36) rfl 37 rfl ?_
  refine s_iconst X343 hx (hb hby at_37) (4 : Int32) rfl 38 rfl ?_
  refine s_lloadN X343 hx (hb hby at_38) rfl 39 rfl ?_
  refine s_iconst X343 hx (hb hby at_39) (1 : Int32) rfl 40 rfl ?_
  obtain ⟨v345, T345, L345, X345, hQ345, st345⟩ := callStat X343 hx hZ hown (wd hw 1 _ rfl) (wd hw 2 _ rfl) (wd hw 3 _ rfl) (wd hw 4 _ rfl) (by decide) (rm_part l Z a0 hw [] i1 (1 : Int32) h343 n0 Z344) e343 (L := #[.val (.long i0), .second, .val (.long i1), .second, .val (.long i2), .second, .val (.long i3), .second, .val (.long i4), .second, .val (.long i5), .second, .unset, .unset, .unset, .unset, .unset, .unset, .unset, .unset]) (hb hby at_40) (by rw [hml]; rfl) [.long i1, .int (1 : Int32)] [.int (4 : Int32), .ref a330, .ref a330] rfl rfl pd_0 rfl 3 (by show 2 * 0 + _ ≤ _; exact Nat.le_of_eq rfl) (by decide) (by decide) (by decide) (by decide)
  obtain ⟨z345, rfl, B345, N345, hh345⟩ := hQ345
  have M345 := Fr.app N343 N345
  refine Go.via st345 ?_
  show Go p e below _ (T345.setTop (mkF m 43 #[.val (.long i0), .second, .val (.long i1), .second, .val (.long i2), .second, .val (.long i3), .second, .val (.long i4), .second, .val (.long i5), .second, .unset, .unset, .unset, .unset, .unset, .unset, .unset, .unset] [.long z345, .int (4 : Int32), .ref a330, .ref a330]))
  obtain ⟨T346, h346, X346, e346, W346, A346, st346⟩ := s_lastore X345 hx hZ hh345 A343 (hb hby at_43) #[.val (.long i0), .second, .val (.long i1), .second, .val (.long i2), .second, .val (.long i3), .second, .val (.long i4), .second, .val (.long i5), .second, .unset, .unset, .unset, .unset, .unset, .unset, .unset, .unset] [.ref a330] (j := (4 : Int32)) 4 (by decide) (by show 4 < 9; decide) z345 [.long z333, .long z336, .long z339, .long z342, .long z345, .long (0 : Int64), .long (0 : Int64), .long (0 : Int64), .long (0 : Int64)] rfl 44 rfl
  have N346 := Fr.snoc X346 M345 q331
  have Z347 : n0 ≤ h346.size := by rw [W346.size]; exact Z344
  refine Go.via st346 ?_
  refine s_dup X346 hx (hb hby at_44) rfl 45 rfl ?_
  refine s_iconst X346 hx (hb hby at_45) (5 : Int32) rfl 46 rfl ?_
  refine s_lloadN X346 hx (hb hby at_46) rfl 47 rfl ?_
  refine s_iconst X346 hx (hb hby at_47) (2 : Int32) rfl 48 rfl ?_
  obtain ⟨v348, T348, L348, X348, hQ348, st348⟩ := callStat X346 hx hZ hown (wd hw 1 _ rfl) (wd hw 2 _ rfl) (wd hw 3 _ rfl) (wd hw 4 _ rfl) (by decide) (rm_part l Z a0 hw [] i1 (2 : Int32) h346 n0 Z347) e346 (L := #[.val (.long i0), .second, .val (.long i1), .second, .val (.long i2), .second, .val (.long i3), .second, .val (.long i4), .second, .val (.long i5), .second, .unset, .unset, .unset, .unset, .unset, .unset, .unset, .unset]) (hb hby at_48) (by rw [hml]; rfl) [.long i1, .int (2 : Int32)] [.int (5 : Int32), .ref a330, .ref a330] rfl rfl pd_0 rfl 3 (by show 2 * 0 + _ ≤ _; exact Nat.le_of_eq rfl) (by decide) (by decide) (by decide) (by decide)
  obtain ⟨z348, rfl, B348, N348, hh348⟩ := hQ348
  have M348 := Fr.app N346 N348
  refine Go.via st348 ?_
  show Go p e below _ (T348.setTop (mkF m 51 #[.val (.long i0), .second, .val (.long i1), .second, .val (.long i2), .second, .val (.long i3), .second, .val (.long i4), .second, .val (.long i5), .second, .unset, .unset, .unset, .unset, .unset, .unset, .unset, .unset] [.long z348, .int (5 : Int32), .ref a330, .ref a330]))
  obtain ⟨T349, h349, X349, e349, W349, A349, st349⟩ := s_lastore X348 hx hZ hh348 A346 (hb hby at_51) #[.val (.long i0), .second, .val (.long i1), .second, .val (.long i2), .second, .val (.long i3), .second, .val (.long i4), .second, .val (.long i5), .second, .unset, .unset, .unset, .unset, .unset, .unset, .unset, .unset] [.ref a330] (j := (5 : Int32)) 5 (by decide) (by show 5 < 9; decide) z348 [.long z333, .long z336, .long z339, .long z342, .long z345, .long z348, .long (0 : Int64), .long (0 : Int64), .long (0 : Int64)] rfl 52 rfl
  have N349 := Fr.snoc X349 M348 q331
  have Z350 : n0 ≤ h349.size := by rw [W349.size]; exact Z347
  refine Go.via st349 ?_
  refine s_dup X349 hx (hb hby at_52) rfl 53 rfl ?_
  refine s_bipush X349 hx (hb hby at_53) (6 : Int32) rfl 55 rfl ?_
  refine s_lload X349 hx (hb hby at_55) rfl 57 rfl ?_
  refine s_iconst X349 hx (hb hby at_57) (0 : Int32) rfl 58 rfl ?_
  obtain ⟨v351, T351, L351, X351, hQ351, st351⟩ := callStat X349 hx hZ hown (wd hw 1 _ rfl) (wd hw 2 _ rfl) (wd hw 3 _ rfl) (wd hw 4 _ rfl) (by decide) (rm_part l Z a0 hw [] i2 (0 : Int32) h349 n0 Z350) e349 (L := #[.val (.long i0), .second, .val (.long i1), .second, .val (.long i2), .second, .val (.long i3), .second, .val (.long i4), .second, .val (.long i5), .second, .unset, .unset, .unset, .unset, .unset, .unset, .unset, .unset]) (hb hby at_58) (by rw [hml]; rfl) [.long i2, .int (0 : Int32)] [.int (6 : Int32), .ref a330, .ref a330] rfl rfl pd_0 rfl 3 (by show 2 * 0 + _ ≤ _; exact Nat.le_of_eq rfl) (by decide) (by decide) (by decide) (by decide)
  obtain ⟨z351, rfl, B351, N351, hh351⟩ := hQ351
  have M351 := Fr.app N349 N351
  refine Go.via st351 ?_
  show Go p e below _ (T351.setTop (mkF m 61 #[.val (.long i0), .second, .val (.long i1), .second, .val (.long i2), .second, .val (.long i3), .second, .val (.long i4), .second, .val (.long i5), .second, .unset, .unset, .unset, .unset, .unset, .unset, .unset, .unset] [.long z351, .int (6 : Int32), .ref a330, .ref a330]))
  obtain ⟨T352, h352, X352, e352, W352, A352, st352⟩ := s_lastore X351 hx hZ hh351 A349 (hb hby at_61) #[.val (.long i0), .second, .val (.long i1), .second, .val (.long i2), .second, .val (.long i3), .second, .val (.long i4), .second, .val (.long i5), .second, .unset, .unset, .unset, .unset, .unset, .unset, .unset, .unset] [.ref a330] (j := (6 : Int32)) 6 (by decide) (by show 6 < 9; decide) z351 [.long z333, .long z336, .long z339, .long z342, .long z345, .long z348, .long z351, .long (0 : Int64), .long (0 : Int64)] rfl 62 rfl
  have N352 := Fr.snoc X352 M351 q331
  have Z353 : n0 ≤ h352.size := by rw [W352.size]; exact Z350
  refine Go.via st352 ?_
  refine s_dup X352 hx (hb hby at_62) rfl 63 rfl ?_
  refine s_bipush X352 hx (hb hby at_63) (7 : Int32) rfl 65 rfl ?_
  refine s_lload X352 hx (hb hby at_65) rfl 67 rfl ?_
  refine s_iconst X352 hx (hb hby at_67) (1 : Int32) rfl 68 rfl ?_
  obtain ⟨v354, T354, L354, X354, hQ354, st354⟩ := callStat X352 hx hZ hown (wd hw 1 _ rfl) (wd hw 2 _ rfl) (wd hw 3 _ rfl) (wd hw 4 _ rfl) (by decide) (rm_part l Z a0 hw [] i2 (1 : Int32) h352 n0 Z353) e352 (L := #[.val (.long i0), .second, .val (.long i1), .second, .val (.long i2), .second, .val (.long i3), .second, .val (.long i4), .second, .val (.long i5), .second, .unset, .unset, .unset, .unset, .unset, .unset, .unset, .unset]) (hb hby at_68) (by rw [hml]; rfl) [.long i2, .int (1 : Int32)] [.int (7 : Int32), .ref a330, .ref a330] rfl rfl pd_0 rfl 3 (by show 2 * 0 + _ ≤ _; exact Nat.le_of_eq rfl) (by decide) (by decide) (by decide) (by decide)
  obtain ⟨z354, rfl, B354, N354, hh354⟩ := hQ354
  have M354 := Fr.app N352 N354
  refine Go.via st354 ?_
  show Go p e below _ (T354.setTop (mkF m 71 #[.val (.long i0), .second, .val (.long i1), .second, .val (.long i2), .second, .val (.long i3), .second, .val (.long i4), .second, .val (.long i5), .second, .unset, .unset, .unset, .unset, .unset, .unset, .unset, .unset] [.long z354, .int (7 : Int32), .ref a330, .ref a330]))
  obtain ⟨T355, h355, X355, e355, W355, A355, st355⟩ := s_lastore X354 hx hZ hh354 A352 (hb hby at_71) #[.val (.long i0), .second, .val (.long i1), .second, .val (.long i2), .second, .val (.long i3), .second, .val (.long i4), .second, .val (.long i5), .second, .unset, .unset, .unset, .unset, .unset, .unset, .unset, .unset] [.ref a330] (j := (7 : Int32)) 7 (by decide) (by show 7 < 9; decide) z354 [.long z333, .long z336, .long z339, .long z342, .long z345, .long z348, .long z351, .long z354, .long (0 : Int64)] rfl 72 rfl
  have N355 := Fr.snoc X355 M354 q331
  have Z356 : n0 ≤ h355.size := by rw [W355.size]; exact Z353
  refine Go.via st355 ?_
  refine s_dup X355 hx (hb hby at_72) rfl 73 rfl ?_
  refine s_bipush X355 hx (hb hby at_73) (8 : Int32) rfl 75 rfl ?_
  refine s_lload X355 hx (hb hby at_75) rfl 77 rfl ?_
  refine s_iconst X355 hx (hb hby at_77) (2 : Int32) rfl 78 rfl ?_
  obtain ⟨v357, T357, L357, X357, hQ357, st357⟩ := callStat X355 hx hZ hown (wd hw 1 _ rfl) (wd hw 2 _ rfl) (wd hw 3 _ rfl) (wd hw 4 _ rfl) (by decide) (rm_part l Z a0 hw [] i2 (2 : Int32) h355 n0 Z356) e355 (L := #[.val (.long i0), .second, .val (.long i1), .second, .val (.long i2), .second, .val (.long i3), .second, .val (.long i4), .second, .val (.long i5), .second, .unset, .unset, .unset, .unset, .unset, .unset, .unset, .unset]) (hb hby at_78) (by rw [hml]; rfl) [.long i2, .int (2 : Int32)] [.int (8 : Int32), .ref a330, .ref a330] rfl rfl pd_0 rfl 3 (by show 2 * 0 + _ ≤ _; exact Nat.le_of_eq rfl) (by decide) (by decide) (by decide) (by decide)
  obtain ⟨z357, rfl, B357, N357, hh357⟩ := hQ357
  have M357 := Fr.app N355 N357
  refine Go.via st357 ?_
  show Go p e below _ (T357.setTop (mkF m 81 #[.val (.long i0), .second, .val (.long i1), .second, .val (.long i2), .second, .val (.long i3), .second, .val (.long i4), .second, .val (.long i5), .second, .unset, .unset, .unset, .unset, .unset, .unset, .unset, .unset] [.long z357, .int (8 : Int32), .ref a330, .ref a330]))
  obtain ⟨T358, h358, X358, e358, W358, A358, st358⟩ := s_lastore X357 hx hZ hh357 A355 (hb hby at_81) #[.val (.long i0), .second, .val (.long i1), .second, .val (.long i2), .second, .val (.long i3), .second, .val (.long i4), .second, .val (.long i5), .second, .unset, .unset, .unset, .unset, .unset, .unset, .unset, .unset] [.ref a330] (j := (8 : Int32)) 8 (by decide) (by show 8 < 9; decide) z357 [.long z333, .long z336, .long z339, .long z342, .long z345, .long z348, .long z351, .long z354, .long z357] rfl 82 rfl
  have N358 := Fr.snoc X358 M357 q331
  have Z359 : n0 ≤ h358.size := by rw [W358.size]; exact Z356
  refine Go.via st358 ?_
  refine s_astore X358 hx (hb hby at_82) rfl #[.val (.long i0), .second, .val (.long i1), .second, .val (.long i2), .second, .val (.long i3), .second, .val (.long i4), .second, .val (.long i5), .second, .val (.ref a330), .unset, .unset, .unset, .unset, .unset, .unset, .unset] rfl 84 rfl ?_
  refine s_bipush X358 hx (hb hby at_84) (9 : Int32) rfl 86 rfl ?_
  obtain ⟨T360, h360, c360, X360, e360, E360, A360, st360⟩ := s_newarray X358 hx hZ (aty := .long) (wd hw 0 _ rfl) e358 (hb hby at_86) #[.val (.long i0), .second, .val (.long i1), .second, .val (.long i2), .second, .val (.long i3), .second, .val (.long i4), .second, .val (.long i5), .second, .val (.ref a330), .unset, .unset, .unset, .unset, .unset, .unset, .unset] [] (n := (9 : Int32)) 9 (by decide) [.long (0 : Int64), .long (0 : Int64), .long (0 : Int64), .long (0 : Int64), .long (0 : Int64), .long (0 : Int64), .long (0 : Int64), .long (0 : Int64), .long (0 : Int64)] rfl (by decide) (by decide) (by decide) 88 rfl
  obtain ⟨a360, g360⟩ : ∃ z, z = h358.size := ⟨_, rfl⟩
  rw [← g360] at A360 st360
  have ne361 : a330 ≠ a360 := by rw [g360]; exact Nat.ne_of_lt A358.lt
  have q362 : n0 ≤ a360 := by rw [g360]; exact Z359
  have F363 := A358.ext E360
  have Z364 := Nat.le_trans Z359 E360.1
  refine Go.via st360 ?_
  refine s_dup X360 hx (hb hby at_88) rfl 89 rfl ?_
  refine s_iconst X360 hx (hb hby at_89) (0 : Int32) rfl 90 rfl ?_
  refine s_lload X360 hx (hb hby at_90) rfl 92 rfl ?_
  refine s_iconst X360 hx (hb hby at_92) (0 : Int32) rfl 93 rfl ?_
  obtain ⟨v365, T365, L365, X365, hQ365, st365⟩ := callStat X360 hx hZ hown (wd hw 1 _ rfl) (wd hw 2 _ rfl) (wd hw 3 _ rfl) (wd hw 4 _ rfl) (by decide) (rm_part l Z a0 hw [] i3 (0 : Int32) h360 n0 Z364) e360 (L := #[.val (.long i0), .second, .val (.long i1), .second, .val (.long i2), .second, .val (.long i3), .second, .val (.long i4), .second, .val (.long i5), .second, .val (.ref a330), .unset, .unset, .unset, .unset, .unset, .unset, .unset]) (hb hby at_93) (by rw [hml]; rfl) [.long i3, .int (0 : Int32)] [.int (0 : Int32), .ref a360, .ref a360] rfl rfl pd_0 rfl 3 (by show 2 * 0 + _ ≤ _; exact Nat.le_of_eq rfl) (by decide) (by decide) (by decide) (by decide)
  obtain ⟨z365, rfl, B365, N365, hh365⟩ := hQ365
  have M365 := Fr.app N358 N365
  refine Go.via st365 ?_
  show Go p e below _ (T365.setTop (mkF m 96 #[.val (.long i0), .second, .val (.long i1), .second, .val (.long i2), .second, .val (.long i3), .second, .val (.long i4), .second, .val (.long i5), .second, .val (.ref a330), .unset, .unset, .unset, .unset, .unset, .unset, .unset] [.long z365, .int (0 : Int32), .ref a360, .ref a360]))
  obtain ⟨T366, h366, X366, e366, W366, A366, st366⟩ := s_lastore X365 hx hZ hh365 A360 (hb hby at_96) #[.val (.long i0), .second, .val (.long i1), .second, .val (.long i2), .second, .val (.long i3), .second, .val (.long i4), .second, .val (.long i5), .second, .val (.ref a330), .unset, .unset, .unset, .unset, .unset, .unset, .unset] [.ref a360] (j := (0 : Int32)) 0 (by decide) (by show 0 < 9; decide) z365 [.long z365, .long (0 : Int64), .long (0 : Int64), .long (0 : Int64), .long (0 : Int64), .long (0 : Int64), .long (0 : Int64), .long (0 : Int64), .long (0 : Int64)] rfl 97 rfl
  have N366 := Fr.snoc X366 M365 q362
  have F367 := F363.other W366 ne361
  have Z368 : n0 ≤ h366.size := by rw [W366.size]; exact Z364
  refine Go.via st366 ?_
  refine s_dup X366 hx (hb hby at_97) rfl 98 rfl ?_
  refine s_iconst X366 hx (hb hby at_98) (1 : Int32) rfl 99 rfl ?_
  refine s_lload X366 hx (hb hby at_99) rfl 101 rfl ?_
  refine s_iconst X366 hx (hb hby at_101) (1 : Int32) rfl 102 rfl ?_
  obtain ⟨v369, T369, L369, X369, hQ369, st369⟩ := callStat X366 hx hZ hown (wd hw 1 _ rfl) (wd hw 2 _ rfl) (wd hw 3 _ rfl) (wd hw 4 _ rfl) (by decide) (rm_part l Z a0 hw [] i3 (1 : Int32) h366 n0 Z368) e366 (L := #[.val (.long i0), .second, .val (.long i1), .second, .val (.long i2), .second, .val (.long i3), .second, .val (.long i4), .second, .val (.long i5), .second, .val (.ref a330), .unset, .unset, .unset, .unset, .unset, .unset, .unset]) (hb hby at_102) (by rw [hml]; rfl) [.long i3, .int (1 : Int32)] [.int (1 : Int32), .ref a360, .ref a360] rfl rfl pd_0 rfl 3 (by show 2 * 0 + _ ≤ _; exact Nat.le_of_eq rfl) (by decide) (by decide) (by decide) (by decide)
  obtain ⟨z369, rfl, B369, N369, hh369⟩ := hQ369
  have M369 := Fr.app N366 N369
  refine Go.via st369 ?_
  show Go p e below _ (T369.setTop (mkF m 105 #[.val (.long i0), .second, .val (.long i1), .second, .val (.long i2), .second, .val (.long i3), .second, .val (.long i4), .second, .val (.long i5), .second, .val (.ref a330), .unset, .unset, .unset, .unset, .unset, .unset, .unset] [.long z369, .int (1 : Int32), .ref a360, .ref a360]))
  obtain ⟨T370, h370, X370, e370, W370, A370, st370⟩ := s_lastore X369 hx hZ hh369 A366 (hb hby at_105) #[.val (.long i0), .second, .val (.long i1), .second, .val (.long i2), .second, .val (.long i3), .second, .val (.long i4), .second, .val (.long i5), .second, .val (.ref a330), .unset, .unset, .unset, .unset, .unset, .unset, .unset] [.ref a360] (j := (1 : Int32)) 1 (by decide) (by show 1 < 9; decide) z369 [.long z365, .long z369, .long (0 : Int64), .long (0 : Int64), .long (0 : Int64), .long (0 : Int64), .long (0 : Int64), .long (0 : Int64), .long (0 : Int64)] rfl 106 rfl
  have N370 := Fr.snoc X370 M369 q362
  have F371 := F367.other W370 ne361
  have Z372 : n0 ≤ h370.size := by rw [W370.size]; exact Z368
  refine Go.via st370 ?_
  refine s_dup X370 hx (hb hby at_106) rfl 107 rfl ?_
  refine s_iconst X370 hx (hb hby at_107) (2 : Int32) rfl 108 rfl ?_
  refine s_lload X370 hx (hb hby at_108) rfl 110 rfl ?_
  refine s_iconst X370 hx (hb hby at_110) (2 : Int32) rfl 111 rfl ?_
  obtain ⟨v373, T373, L373, X373, hQ373, st373⟩ := callStat X370 hx hZ hown (wd hw 1 _ rfl) (wd hw 2 _ rfl) (wd hw 3 _ rfl) (wd hw 4 _ rfl) (by decide) (rm_part l Z a0 hw [] i3 (2 : Int32) h370 n0 Z372) e370 (L := #[.val (.long i0), .second, .val (.long i1), .second, .val (.long i2), .second, .val (.long i3), .second, .val (.long i4), .second, .val (.long i5), .second, .val (.ref a330), .unset, .unset, .unset, .unset, .unset, .unset, .unset]) (hb hby at_111) (by rw [hml]; rfl) [.long i3, .int (2 : Int32)] [.int (2 : Int32), .ref a360, .ref a360] rfl rfl pd_0 rfl 3 (by show 2 * 0 + _ ≤ _; exact Nat.le_of_eq rfl) (by decide) (by decide) (by decide) (by decide)
  obtain ⟨z373, rfl, B373, N373, hh373⟩ := hQ373
  have M373 := Fr.app N370 N373
  refine Go.via st373 ?_
  show Go p e below _ (T373.setTop (mkF m 114 #[.val (.long i0), .second, .val (.long i1), .second, .val (.long i2), .second, .val (.long i3), .second, .val (.long i4), .second, .val (.long i5), .second, .val (.ref a330), .unset, .unset, .unset, .unset, .unset, .unset, .unset] [.long z373, .int (2 : Int32), .ref a360, .ref a360]))
  obtain ⟨T374, h374, X374, e374, W374, A374, st374⟩ := s_lastore X373 hx hZ hh373 A370 (hb hby at_114) #[.val (.long i0), .second, .val (.long i1), .second, .val (.long i2), .second, .val (.long i3), .second, .val (.long i4), .second, .val (.long i5), .second, .val (.ref a330), .unset, .unset, .unset, .unset, .unset, .unset, .unset] [.ref a360] (j := (2 : Int32)) 2 (by decide) (by show 2 < 9; decide) z373 [.long z365, .long z369, .long z373, .long (0 : Int64), .long (0 : Int64), .long (0 : Int64), .long (0 : Int64), .long (0 : Int64), .long (0 : Int64)] rfl 115 rfl
  have N374 := Fr.snoc X374 M373 q362
  have F375 := F371.other W374 ne361
  have Z376 : n0 ≤ h374.size := by rw [W374.size]; exact Z372
  refine Go.via st374 ?_
  refine s_dup X374 hx (hb hby at_115) rfl 116 rfl ?_
  refine s_iconst X374 hx (hb hby at_116) (3 : Int32) rfl 117 rfl ?_
  refine s_lload X374 hx (hb hby at_117) rfl 119 rfl ?_
  refine s_iconst X374 hx (hb hby at_119) (0 : Int32) rfl 120 rfl ?_
  obtain ⟨v377, T377, L377, X377, hQ377, st377⟩ := callStat X374 hx hZ hown (wd hw 1 _ rfl) (wd hw 2 _ rfl) (wd hw 3 _ rfl) (wd hw 4 _ rfl) (by decide) (rm_part l Z a0 hw [] i4 (0 : Int32) h374 n0 Z376) e374 (L := #[.val (.long i0), .second, .val (.long i1), .second, .val (.long i2), .second, .val (.long i3), .second, .val (.long i4), .second, .val (.long i5), .second, .val (.ref a330), .unset, .unset, .unset, .unset, .unset, .unset, .unset]) (hb hby at_120) (by rw [hml]; rfl) [.long i4, .int (0 : Int32)] [.int (3 : Int32), .ref a360, .ref a360] rfl rfl pd_0 rfl 3 (by show 2 * 0 + _ ≤ _; exact Nat.le_of_eq rfl) (by decide) (by decide) (by decide) (by decide)
  obtain ⟨z377, rfl, B377, N377, hh377⟩ := hQ377
  have M377 := Fr.app N374 N377
  refine Go.via st377 ?_
  show Go p e below _ (T377.setTop (mkF m 123 #[.val (.long i0), .second, .val (.long i1), .second, .val (.long i2), .second, .val (.long i3), .second, .val (.long i4), .second, .val (.long i5), .second, .val (.ref a330), .unset, .unset, .unset, .unset, .unset, .unset, .unset] [.long z377, .int (3 : Int32), .ref a360, .ref a360]))
  obtain ⟨T378, h378, X378, e378, W378, A378, st378⟩ := s_lastore X377 hx hZ hh377 A374 (hb hby at_123) #[.val (.long i0), .second, .val (.long i1), .second, .val (.long i2), .second, .val (.long i3), .second, .val (.long i4), .second, .val (.long i5), .second, .val (.ref a330), .unset, .unset, .unset, .unset, .unset, .unset, .unset] [.ref a360] (j := (3 : Int32)) 3 (by decide) (by show 3 < 9; decide) z377 [.long z365, .long z369, .long z373, .long z377, .long (0 : Int64), .long (0 : Int64), .long (0 : Int64), .long (0 : Int64), .long (0 : Int64)] rfl 124 rfl
  have N378 := Fr.snoc X378 M377 q362
  have F379 := F375.other W378 ne361
  have Z380 : n0 ≤ h378.size := by rw [W378.size]; exact Z376
  refine Go.via st378 ?_
  refine s_dup X378 hx (hb hby at_124) rfl 125 rfl ?_
  refine s_iconst X378 hx (hb hby at_125) (4 : Int32) rfl 126 rfl ?_
  refine s_lload X378 hx (hb hby at_126) rfl 128 rfl ?_
  refine s_iconst X378 hx (hb hby at_128) (1 : Int32) rfl 129 rfl ?_
  obtain ⟨v381, T381, L381, X381, hQ381, st381⟩ := callStat X378 hx hZ hown (wd hw 1 _ rfl) (wd hw 2 _ rfl) (wd hw 3 _ rfl) (wd hw 4 _ rfl) (by decide) (rm_part l Z a0 hw [] i4 (1 : Int32) h378 n0 Z380) e378 (L := #[.val (.long i0), .second, .val (.long i1), .second, .val (.long i2), .second, .val (.long i3), .second, .val (.long i4), .second, .val (.long i5), .second, .val (.ref a330), .unset, .unset, .unset, .unset, .unset, .unset, .unset]) (hb hby at_129) (by rw [hml]; rfl) [.long i4, .int (1 : Int32)] [.int (4 : Int32), .ref a360, .ref a360] rfl rfl pd_0 rfl 3 (by show 2 * 0 + _ ≤ _; exact Nat.le_of_eq rfl) (by decide) (by decide) (by decide) (by decide)
  obtain ⟨z381, rfl, B381, N381, hh381⟩ := hQ381
  have M381 := Fr.app N378 N381
  refine Go.via st381 ?_
  show Go p e below _ (T381.setTop (mkF m 132 #[.val (.long i0), .second, .val (.long i1), .second, .val (.long i2), .second, .val (.long i3), .second, .val (.long i4), .second, .val (.long i5), .second, .val (.ref a330), .unset, .unset, .unset, .unset, .unset, .unset, .unset] [.long z381, .int (4 : Int32), .ref a360, .ref a360]))
  obtain ⟨T382, h382, X382, e382, W382, A382, st382⟩ := s_lastore X381 hx hZ hh381 A378 (hb hby at_132) #[.val (.long i0), .second, .val (.long i1), .second, .val (.long i2), .second, .val (.long i3), .second, .val (.long i4), .second, .val (.long i5), .second, .val (.ref a330), .unset, .unset, .unset, .unset, .unset, .unset, .unset] [.ref a360] (j := (4 : Int32)) 4 (by decide) (by show 4 < 9; decide) z381 [.long z365, .long z369, .long z373, .long z377, .long z381, .long (0 : Int64), .long (0 : Int64), .long (0 : Int64), .long (0 : Int64)] rfl 133 rfl
  have N382 := Fr.snoc X382 M381 q362
  have F383 := F379.other W382 ne361
  have Z384 : n0 ≤ h382.size := by rw [W382.size]; exact Z380
  refine Go.via st382 ?_
  refine s_dup X382 hx (hb hby at_133) rfl 134 rfl ?_
  refine s_iconst X382 hx (hb hby at_134) (5 : Int32) rfl 135 rfl ?_
  refine s_lload X382 hx (hb hby at_135) rfl 137 rfl ?_
  refine s_iconst X382 hx (hb hby at_137) (2 : Int32) rfl 138 rfl ?_
  obtain ⟨v385, T385, L385, X385, hQ385, st385⟩ := callStat X382 hx hZ hown (wd hw 1 _ rfl) (wd hw 2 _ rfl) (wd hw 3 _ rfl) (wd hw 4 _ rfl) (by decide) (rm_part l Z a0 hw [] i4 (2 : Int32) h382 n0 Z384) e382 (L := #[.val (.long i0), .second, .val (.long i1), .second, .val (.long i2), .second, .val (.long i3), .second, .val (.long i4), .second, .val (.long i5), .second, .val (.ref a330), .unset, .unset, .unset, .unset, .unset, .unset, .unset]) (hb hby at_138) (by rw [hml]; rfl) [.long i4, .int (2 : Int32)] [.int (5 : Int32), .ref a360, .ref a360] rfl rfl pd_0 rfl 3 (by show 2 * 0 + _ ≤ _; exact Nat.le_of_eq rfl) (by decide) (by decide) (by decide) (by decide)
  obtain ⟨z385, rfl, B385, N385, hh385⟩ := hQ385
  have M385 := Fr.app N382 N385
  refine Go.via st385 ?_
  show Go p e below _ (T385.setTop (mkF m 141 #[.val (.long i0), .second, .val (.long i1), .second, .val (.long i2), .second, .val (.long i3), .second, .val (.long i4), .second, .val (.long i5), .second, .val (.ref a330), .unset, .unset, .unset, .unset, .unset, .unset, .unset] [.long z385, .int (5 : Int32), .ref a360, .ref a360]))
  obtain ⟨T386, h386, X386, e386, W386, A386, st386⟩ := s_lastore X385 hx hZ hh385 A382 (hb hby at_141) #[.val (.long i0), .second, .val (.long i1), .second, .val (.long i2), .second, .val (.long i3), .second, .val (.long i4), .second, .val (.long i5), .second, .val (.ref a330), .unset, .unset, .unset, .unset, .unset, .unset, .unset] [.ref a360] (j := (5 : Int32)) 5 (by decide) (by show 5 < 9; decide) z385 [.long z365, .long z369, .long z373, .long z377, .long z381, .long z385, .long (0 : Int64), .long (0 : Int64), .long (0 : Int64)] rfl 142 rfl
  have N386 := Fr.snoc X386 M385 q362
  have F387 := F383.other W386 ne361
  have Z388 : n0 ≤ h386.size := by rw [W386.size]; exact Z384
  refine Go.via st386 ?_
  refine s_dup X386 hx (hb hby at_142) rfl 143 rfl ?_
  refine s_bipush X386 hx (hb hby at_143) (6 : Int32) rfl 145 rfl ?_
  refine s_lload X386 hx (hb hby at_145) rfl 147 rfl ?_
  refine s_iconst X386 hx (hb hby at_147) (0 : Int32) rfl 148 rfl ?_
  obtain ⟨v389, T389, L389, X389, hQ389, st389⟩ := callStat X386 hx hZ hown (wd hw 1 _ rfl) (wd hw 2 _ rfl) (wd hw 3 _ rfl) (wd hw 4 _ rfl) (by decide) (rm_part l Z a0 hw [] i5 (0 : Int32) h386 n0 Z388) e386 (L := #[.val (.long i0), .second, .val (.long i1), .second, .val (.long i2), .second, .val (.long i3), .second, .val (.long i4), .second, .val (.long i5), .second, .val (.ref a330), .unset, .unset, .unset, .unset, .unset, .unset, .unset]) (hb hby at_148) (by rw [hml]; rfl) [.long i5, .int (0 : Int32)] [.int (6 : Int32), .ref a360, .ref a360] rfl rfl pd_0 rfl 3 (by show 2 * 0 + _ ≤ _; exact Nat.le_of_eq rfl) (by decide) (by decide) (by decide) (by decide)
  obtain ⟨z389, rfl, B389, N389, hh389⟩ := hQ389
  have M389 := Fr.app N386 N389
  refine Go.via st389 ?_
  show Go p e below _ (T389.setTop (mkF m 151 #[.val (.long i0), .second, .val (.long i1), .second, .val (.long i2), .second, .val (.long i3), .second, .val (.long i4), .second, .val (.long i5), .second, .val (.ref a330), .unset, .unset, .unset, .unset, .unset, .unset, .unset] [.long z389, .int (6 : Int32), .ref a360, .ref a360]))
  obtain ⟨T390, h390, X390, e390, W390, A390, st390⟩ := s_lastore X389 hx hZ hh389 A386 (hb hby at_151) #[.val (.long i0), .second, .val (.long i1), .second, .val (.long i2), .second, .val (.long i3), .second, .val (.long i4), .second, .val (.long i5), .second, .val (.ref a330), .unset, .unset, .unset, .unset, .unset, .unset, .unset] [.ref a360] (j := (6 : Int32)) 6 (by decide) (by show 6 < 9; decide) z389 [.long z365, .long z369, .long z373, .long z377, .long z381, .long z385, .long z389, .long (0 : Int64), .long (0 : Int64)] rfl 152 rfl
  have N390 := Fr.snoc X390 M389 q362
  have F391 := F387.other W390 ne361
  have Z392 : n0 ≤ h390.size := by rw [W390.size]; exact Z388
  refine Go.via st390 ?_
  refine s_dup X390 hx (hb hby at_152) rfl 153 rfl ?_
  refine s_bipush X390 hx (hb hby at_153) (7 : Int32) rfl 155 rfl ?_
  refine s_lload X390 hx (hb hby at_155) rfl 157 rfl ?_
  refine s_iconst X390 hx (hb hby at_157) (1 : Int32) rfl 158 rfl ?_
  obtain ⟨v393, T393, L393, X393, hQ393, st393⟩ := callStat X390 hx hZ hown (wd hw 1 _ rfl) (wd hw 2 _ rfl) (wd hw 3 _ rfl) (wd hw 4 _ rfl) (by decide) (rm_part l Z a0 hw [] i5 (1 : Int32) h390 n0 Z392) e390 (L := #[.val (.long i0), .second, .val (.long i1), .second, .val (.long i2), .second, .val (.long i3), .second, .val (.long i4), .second, .val (.long i5), .second, .val (.ref a330), .unset, .unset, .unset, .unset, .unset, .unset, .unset]) (hb hby at_158) (by rw [hml]; rfl) [.long i5, .int (1 : Int32)] [.int (7 : Int32), .ref a360, .ref a360] rfl rfl pd_0 rfl 3 (by show 2 * 0 + _ ≤ _; exact Nat.le_of_eq rfl) (by decide) (by decide) (by decide) (by decide)
  obtain ⟨z393, rfl, B393, N393, hh393⟩ := hQ393
  have M393 := Fr.app N390 N393
  refine Go.via st393 ?_
  show Go p e below _ (T393.setTop (mkF m 161 #[.val (.long i0), .second, .val (.long i1), .second, .val (.long i2), .second, .val (.long i3), .second, .val (.long i4), .second, .val (.long i5), .second, .val (.ref a330), .unset, .unset, .unset, .unset, .unset, .unset, .unset] [.long z393, .int (7 : Int32), .ref a360, .ref a360]))
  obtain ⟨T394, h394, X394, e394, W394, A394, st394⟩ := s_lastore X393 hx hZ hh393 A390 (hb hby at_161) #[.val (.long i0), .second, .val (.long i1), .second, .val (.long i2), .second, .val (.long i3), .second, .val (.long i4), .second, .val (.long i5), .second, .val (.ref a330), .unset, .unset, .unset, .unset, .unset, .unset, .unset] [.ref a360] (j := (7 : Int32)) 7 (by decide) (by show 7 < 9; decide) z393 [.long z365, .long z369, .long z373, .long z377, .long z381, .long z385, .long z389, .long z393, .long (0 : Int64)] rfl 162 rfl
  have N394 := Fr.snoc X394 M393 q362
  have F395 := F391.other W394 ne361
  have Z396 : n0 ≤ h394.size := by rw [W394.size]; exact Z392
  refine Go.via st394 ?_
  refine s_dup X394 hx (hb hby at_162) rfl 163 rfl ?_
  refine s_bipush X394 hx (hb hby at_163) (8 : Int32) rfl 165 rfl ?_
  refine s_lload X394 hx (hb hby at_165) rfl 167 rfl ?_
  refine s_iconst X394 hx (hb hby at_167) (2 : Int32) rfl 168 rfl ?_
  obtain ⟨v397, T397, L397, X397, hQ397, st397⟩ := callStat X394 hx hZ hown (wd hw 1 _ rfl) (wd hw 2 _ rfl) (wd hw 3 _ rfl) (wd hw 4 _ rfl) (by decide) (rm_part l Z a0 hw [] i5 (2 : Int32) h394 n0 Z396) e394 (L := #[.val (.long i0), .second, .val (.long i1), .second, .val (.long i2), .second, .val (.long i3), .second, .val (.long i4), .second, .val (.long i5), .second, .val (.ref a330), .unset, .unset, .unset, .unset, .unset, .unset, .unset]) (hb hby at_168) (by rw [hml]; rfl) [.long i5, .int (2 : Int32)] [.int (8 : Int32), .ref a360, .ref a360] rfl rfl pd_0 rfl 3 (by show 2 * 0 + _ ≤ _; exact Nat.le_of_eq rfl) (by decide) (by decide) (by decide) (by decide)
  obtain ⟨z397, rfl, B397, N397, hh397⟩ := hQ397
  have M397 := Fr.app N394 N397
  refine Go.via st397 ?_
  show Go p e below _ (T397.setTop (mkF m 171 #[.val (.long i0), .second, .val (.long i1), .second, .val (.long i2), .second, .val (.long i3), .second, .val (.long i4), .second, .val (.long i5), .second, .val (.ref a330), .unset, .unset, .unset, .unset, .unset, .unset, .unset] [.long z397, .int (8 : Int32), .ref a360, .ref a360]))
  obtain ⟨T398, h398, X398, e398, W398, A398, st398⟩ := s_lastore X397 hx hZ hh397 A394 (hb hby at_171) #[.val (.long i0), .second, .val (.long i1), .second, .val (.long i2), .second, .val (.long i3), .second, .val (.long i4), .second, .val (.long i5), .second, .val (.ref a330), .unset, .unset, .unset, .unset, .unset, .unset, .unset] [.ref a360] (j := (8 : Int32)) 8 (by decide) (by show 8 < 9; decide) z397 [.long z365, .long z369, .long z373, .long z377, .long z381, .long z385, .long z389, .long z393, .long z397] rfl 172 rfl
  have N398 := Fr.snoc X398 M397 q362
  have F399 := F395.other W398 ne361
  have Z400 : n0 ≤ h398.size := by rw [W398.size]; exact Z396
  refine Go.via st398 ?_
  refine s_astore X398 hx (hb hby at_172) rfl #[.val (.long i0), .second, .val (.long i1), .second, .val (.long i2), .second, .val (.long i3), .second, .val (.long i4), .second, .val (.long i5), .second, .val (.ref a330), .val (.ref a360), .unset, .unset, .unset, .unset, .unset, .unset] rfl 174 rfl ?_
  refine s_bipush X398 hx (hb hby at_174) (9 : Int32) rfl 176 rfl ?_
  obtain ⟨T401, h401, c401, X401, e401, E401, A401, st401⟩ := s_newarray X398 hx hZ (aty := .double) (wd hw 7 _ rfl) e398 (hb hby at_176) #[.val (.long i0), .second, .val (.long i1), .second, .val (.long i2), .second, .val (.long i3), .second, .val (.long i4), .second, .val (.long i5), .second, .val (.ref a330), .val (.ref a360), .unset, .unset, .unset, .unset, .unset, .unset] [] (n := (9 : Int32)) 9 (by decide) [.double (0 : UInt64), .double (0 : UInt64), .double (0 : UInt64), .double (0 : UInt64), .double (0 : UInt64), .double (0 : UInt64), .double (0 : UInt64), .double (0 : UInt64), .double (0 : UInt64)] rfl (by decide) (by decide) (by decide) 178 rfl
  obtain ⟨a401, g401⟩ : ∃ z, z = h398.size := ⟨_, rfl⟩
  rw [← g401] at A401 st401
  have ne402 : a330 ≠ a401 := by rw [g401]; exact Nat.ne_of_lt F399.lt
  have ne403 : a360 ≠ a401 := by rw [g401]; exact Nat.ne_of_lt A398.lt
  have q404 : n0 ≤ a401 := by rw [g401]; exact Z400
  have F405 := F399.ext E401
  have F406 := A398.ext E401
  have Z407 := Nat.le_trans Z400 E401.1
  refine Go.via st401 ?_
  refine s_dup X401 hx (hb hby at_178) rfl 179 rfl ?_
  refine s_iconst X401 hx (hb hby at_179) (0 : Int32) rfl 180 rfl ?_
  refine s_aload X401 hx (hb hby at_180) rfl rfl 182 rfl ?_
  refine s_iconst X401 hx (hb hby at_182) (0 : Int32) rfl 183 rfl ?_
  refine s_laload X401 hx hZ e401 F405 (hb hby at_183) (j := (0 : Int32)) 0 (by decide) (.long z333) rfl 184 rfl ?_
  have Dd408 := Lb.l2d B333 (by decide)
  obtain ⟨d408, h_d408⟩ : ∃ v, (FP.l2d z333) = v := ⟨_, rfl⟩
  rw [h_d408] at Dd408
  refine s_l2d X401 hx (hb hby at_184) d408 h_d408 185 rfl ?_
  obtain ⟨T409, h409, X409, e409, W409, A409, st409⟩ := s_dastore X401 hx hZ e401 A401 (hb hby at_185) #[.val (.long i0), .second, .val (.long i1), .second, .val (.long i2), .second, .val (.long i3), .second, .val (.long i4), .second, .val (.long i5), .second, .val (.ref a330), .val (.ref a360), .unset, .unset, .unset, .unset, .unset, .unset] [.ref a401] (j := (0 : Int32)) 0 (by decide) (by show 0 < 9; decide) d408 [.double d408, .double (0 : UInt64), .double (0 : UInt64), .double (0 : UInt64), .double (0 : UInt64), .double (0 : UInt64), .double (0 : UInt64), .double (0 : UInt64), .double (0 : UInt64)] rfl 186 rfl
  have N409 := Fr.snoc X409 N398 q404
  have F410 := F405.other W409 ne402
  have F411 := F406.other W409 ne403
  have Z412 : n0 ≤ h409.size := by rw [W409.size]; exact Z407
  refine Go.via st409 ?_
  refine s_dup X409 hx (hb hby at_186) rfl 187 rfl ?_
  refine s_iconst X409 hx (hb hby at_187) (1 : Int32) rfl 188 rfl ?_
  refine s_aload X409 hx (hb hby at_188) rfl rfl 190 rfl ?_
  refine s_iconst X409 hx (hb hby at_190) (1 : Int32) rfl 191 rfl ?_
  refine s_laload X409 hx hZ e409 F410 (hb hby at_191) (j := (1 : Int32)) 1 (by decide) (.long z336) rfl 192 rfl ?_
  have Dd413 := Lb.l2d B336 (by decide)
  obtain ⟨d413, h_d413⟩ : ∃ v, (FP.l2d z336) = v := ⟨_, rfl⟩
  rw [h_d413] at Dd413
  refine s_l2d X409 hx (hb hby at_192) d413 h_d413 193 rfl ?_
  obtain ⟨T414, h414, X414, e414, W414, A414, st414⟩ := s_dastore X409 hx hZ e409 A409 (hb hby at_193) #[.val (.long i0), .second, .val (.long i1), .second, .val (.long i2), .second, .val (.long i3), .second, .val (.long i4), .second, .val (.long i5), .second, .val (.ref a330), .val (.ref a360), .unset, .unset, .unset, .unset, .unset, .unset] [.ref a401] (j := (1 : Int32)) 1 (by decide) (by show 1 < 9; decide) d413 [.double d408, .double d413, .double (0 : UInt64), .double (0 : UInt64), .double (0 : UInt64), .double (0 : UInt64), .double (0 : UInt64), .double (0 : UInt64), .double (0 : UInt64)] rfl 194 rfl
  have N414 := Fr.snoc X414 N409 q404
  have F415 := F410.other W414 ne402
  have F416 := F411.other W414 ne403
  have Z417 : n0 ≤ h414.size := by rw [W414.size]; exact Z412
  refine Go.via st414 ?_
  refine s_dup X414 hx (hb hby at_194) rfl 195 rfl ?_
  refine s_iconst X414 hx (hb hby at_195) (2 : Int32) rfl 196 rfl ?_
  refine s_aload X414 hx (hb hby at_196) rfl rfl 198 rfl ?_
  refine s_iconst X414 hx (hb hby at_198) (2 : Int32) rfl 199 rfl ?_
  refine s_laload X414 hx hZ e414 F415 (hb hby at_199) (j := (2 : Int32)) 2 (by decide) (.long z339) rfl 200 rfl ?_
  have Dd418 := Lb.l2d B339 (by decide)
  obtain ⟨d418, h_d418⟩ : ∃ v, (FP.l2d z339) = v := ⟨_, rfl⟩
  rw [h_d418] at Dd418
  refine s_l2d X414 hx (hb hby at_200) d418 h_d418 201 rfl ?_
  obtain ⟨T419, h419, X419, e419, W419, A419, st419⟩ := s_dastore X414 hx hZ e414 A414 (hb hby at_201) #[.val (.long i0), .second, .val (.long i1), .second, .val (.long i2), .second, .val (.long i3), .second, .val (.long i4), .second, .val (.long i5), .second, .val (.ref a330), .val (.ref a360), .unset, .unset, .unset, .unset, .unset, .unset] [.ref a401] (j := (2 : Int32)) 2 (by decide) (by show 2 < 9; decide) d418 [.double d408, .double d413, .double d418, .double (0 : UInt64), .double (0 : UInt64), .double (0 : UInt64), .double (0 : UInt64), .double (0 : UInt64), .double (0 : UInt64)] rfl 202 rfl
  have N419 := Fr.snoc X419 N414 q404
  have F420 := F415.other W419 ne402
  have F421 := F416.other W419 ne403
  have Z422 : n0 ≤ h419.size := by rw [W419.size]; exact Z417
  refine Go.via st419 ?_
  refine s_dup X419 hx (hb hby at_202) rfl 203 rfl ?_
  refine s_iconst X419 hx (hb hby at_203) (3 : Int32) rfl 204 rfl ?_
  refine s_aload X419 hx (hb hby at_204) rfl rfl 206 rfl ?_
  refine s_iconst X419 hx (hb hby at_206) (3 : Int32) rfl 207 rfl ?_
  refine s_laload X419 hx hZ e419 F420 (hb hby at_207) (j := (3 : Int32)) 3 (by decide) (.long z342) rfl 208 rfl ?_
  have Dd423 := Lb.l2d B342 (by decide)
  obtain ⟨d423, h_d423⟩ : ∃ v, (FP.l2d z342) = v := ⟨_, rfl⟩
  rw [h_d423] at Dd423
  refine s_l2d X419 hx (hb hby at_208) d423 h_d423 209 rfl ?_
  obtain ⟨T424, h424, X424, e424, W424, A424, st424⟩ := s_dastore X419 hx hZ e419 A419 (hb hby at_209) #[.val (.long i0), .second, .val (.long i1), .second, .val (.long i2), .second, .val (.long i3), .second, .val (.long i4), .second, .val (.long i5), .second, .val (.ref a330), .val (.ref a360), .unset, .unset, .unset, .unset, .unset, .unset] [.ref a401] (j := (3 : Int32)) 3 (by decide) (by show 3 < 9; decide) d423 [.double d408, .double d413, .double d418, .double d423, .double (0 : UInt64), .double (0 : UInt64), .double (0 : UInt64), .double (0 : UInt64), .double (0 : UInt64)] rfl 210 rfl
  have N424 := Fr.snoc X424 N419 q404
  have F425 := F420.other W424 ne402
  have F426 := F421.other W424 ne403
  have Z427 : n0 ≤ h424.size := by rw [W424.size]; exact Z422
  refine Go.via st424 ?_
  refine s_dup X424 hx (hb hby at_210) rfl 211 rfl ?_
  refine s_iconst X424 hx (hb hby at_211) (4 : Int32) rfl 212 rfl ?_
  refine s_aload X424 hx (hb hby at_212) rfl rfl 214 rfl ?_
  refine s_iconst X424 hx (hb hby at_214) (4 : Int32) rfl 215 rfl ?_
  refine s_laload X424 hx hZ e424 F425 (hb hby at_215) (j := (4 : Int32)) 4 (by decide) (.long z345) rfl 216 rfl ?_
  have Dd428 := Lb.l2d B345 (by decide)
  obtain ⟨d428, h_d428⟩ : ∃ v, (FP.l2d z345) = v := ⟨_, rfl⟩
  rw [h_d428] at Dd428
  refine s_l2d X424 hx (hb hby at_216) d428 h_d428 217 rfl ?_
  obtain ⟨T429, h429, X429, e429, W429, A429, st429⟩ := s_dastore X424 hx hZ e424 A424 (hb hby at_217) #[.val (.long i0), .second, .val (.long i1), .second, .val (.long i2), .second, .val (.long i3), .second, .val (.long i4), .second, .val (.long i5), .second, .val (.ref a330), .val (.ref a360), .unset, .unset, .unset, .unset, .unset, .unset] [.ref a401] (j := (4 : Int32)) 4 (by decide) (by show 4 < 9; decide) d428 [.double d408, .double d413, .double d418, .double d423, .double d428, .double (0 : UInt64), .double (0 : UInt64), .double (0 : UInt64), .double (0 : UInt64)] rfl 218 rfl
  have N429 := Fr.snoc X429 N424 q404
  have F430 := F425.other W429 ne402
  have F431 := F426.other W429 ne403
  have Z432 : n0 ≤ h429.size := by rw [W429.size]; exact Z427
  refine Go.via st429 ?_
  refine s_dup X429 hx (hb hby at_218) rfl 219 rfl ?_
  refine s_iconst X429 hx (hb hby at_219) (5 : Int32) rfl 220 rfl ?_
  refine s_aload X429 hx (hb hby at_220) rfl rfl 222 rfl ?_
  refine s_iconst X429 hx (hb hby at_222) (5 : Int32) rfl 223 rfl ?_
  refine s_laload X429 hx hZ e429 F430 (hb hby at_223) (j := (5 : Int32)) 5 (by decide) (.long z348) rfl 224 rfl ?_
  have Dd433 := Lb.l2d B348 (by decide)
  obtain ⟨d433, h_d433⟩ : ∃ v, (FP.l2d z348) = v := ⟨_, rfl⟩
  rw [h_d433] at Dd433
  refine s_l2d X429 hx (hb hby at_224) d433 h_d433 225 rfl ?_
  obtain ⟨T434, h434, X434, e434, W434, A434, st434⟩ := s_dastore X429 hx hZ e429 A429 (hb hby at_225) #[.val (.long i0), .second, .val (.long i1), .second, .val (.long i2), .second, .val (.long i3), .second, .val (.long i4), .second, .val (.long i5), .second, .val (.ref a330), .val (.ref a360), .unset, .unset, .unset, .unset, .unset, .unset] [.ref a401] (j := (5 : Int32)) 5 (by decide) (by show 5 < 9; decide) d433 [.double d408, .double d413, .double d418, .double d423, .double d428, .double d433, .double (0 : UInt64), .double (0 : UInt64), .double (0 : UInt64)] rfl 226 rfl
  have N434 := Fr.snoc X434 N429 q404
  have F435 := F430.other W434 ne402
  have F436 := F431.other W434 ne403
  have Z437 : n0 ≤ h434.size := by rw [W434.size]; exact Z432
  refine Go.via st434 ?_
  refine s_dup X434 hx (hb hby at_226) rfl 227 rfl ?_
  refine s_bipush X434 hx (hb hby at_227) (6 : Int32) rfl 229 rfl ?_
  refine s_aload X434 hx (hb hby at_229) rfl rfl 231 rfl ?_
  refine s_bipush X434 hx (hb hby at_231) (6 : Int32) rfl 233 rfl ?_
  refine s_laload X434 hx hZ e434 F435 (hb hby at_233) (j := (6 : Int32)) 6 (by decide) (.long z351) rfl 234 rfl ?_
  have Dd438 := Lb.l2d B351 (by decide)
  obtain ⟨d438, h_d438⟩ : ∃ v, (FP.l2d z351) = v := ⟨_, rfl⟩
  rw [h_d438] at Dd438
  refine s_l2d X434 hx (hb hby at_234) d438 h_d438 235 rfl ?_
  obtain ⟨T439, h439, X439, e439, W439, A439, st439⟩ := s_dastore X434 hx hZ e434 A434 (hb hby at_235) #[.val (.long i0), .second, .val (.long i1), .second, .val (.long i2), .second, .val (.long i3), .second, .val (.long i4), .second, .val (.long i5), .second, .val (.ref a330), .val (.ref a360), .unset, .unset, .unset, .unset, .unset, .unset] [.ref a401] (j := (6 : Int32)) 6 (by decide) (by show 6 < 9; decide) d438 [.double d408, .double d413, .double d418, .double d423, .double d428, .double d433, .double d438, .double (0 : UInt64), .double (0 : UInt64)] rfl 236 rfl
  have N439 := Fr.snoc X439 N434 q404
  have F440 := F435.other W439 ne402
  have F441 := F436.other W439 ne403
  have Z442 : n0 ≤ h439.size := by rw [W439.size]; exact Z437
  refine Go.via st439 ?_
  refine s_dup X439 hx (hb hby at_236) rfl 237 rfl ?_
  refine s_bipush X439 hx (hb hby at_237) (7 : Int32) rfl 239 rfl ?_
  refine s_aload X439 hx (hb hby at_239) rfl rfl 241 rfl ?_
  refine s_bipush X439 hx (hb hby at_241) (7 : Int32) rfl 243 rfl ?_
  refine s_laload X439 hx hZ e439 F440 (hb hby at_243) (j := (7 : Int32)) 7 (by decide) (.long z354) rfl 244 rfl ?_
  have Dd443 := Lb.l2d B354 (by decide)
  obtain ⟨d443, h_d443⟩ : ∃ v, (FP.l2d z354) = v := ⟨_, rfl⟩
  rw [h_d443] at Dd443
  refine s_l2d X439 hx (hb hby at_244) d443 h_d443 245 rfl ?_
  obtain ⟨T444, h444, X444, e444, W444, A444, st444⟩ := s_dastore X439 hx hZ e439 A439 (hb hby at_245) #[.val (.long i0), .second, .val (.long i1), .second, .val (.long i2), .second, .val (.long i3), .second, .val (.long i4), .second, .val (.long i5), .second, .val (.ref a330), .val (.ref a360), .unset, .unset, .unset, .unset, .unset, .unset] [.ref a401] (j := (7 : Int32)) 7 (by decide) (by show 7 < 9; decide) d443 [.double d408, .double d413, .double d418, .double d423, .double d428, .double d433, .double d438, .double d443, .double (0 : UInt64)] rfl 246 rfl
  have N444 := Fr.snoc X444 N439 q404
  have F445 := F440.other W444 ne402
  have F446 := F441.other W444 ne403
  have Z447 : n0 ≤ h444.size := by rw [W444.size]; exact Z442
  refine Go.via st444 ?_
  refine s_dup X444 hx (hb hby at_246) rfl 247 rfl ?_
  refine s_bipush X444 hx (hb hby at_247) (8 : Int32) rfl 249 rfl ?_
  refine s_aload X444 hx (hb hby at_249) rfl rfl 251 rfl ?_
  refine s_bipush X444 hx (hb hby at_251) (8 : Int32) rfl 253 rfl ?_
  refine s_laload X444 hx hZ e444 F445 (hb hby at_253) (j := (8 : Int32)) 8 (by decide) (.long z357) rfl 254 rfl ?_
  have Dd448 := Lb.l2d B357 (by decide)
  obtain ⟨d448, h_d448⟩ : ∃ v, (FP.l2d z357) = v := ⟨_, rfl⟩
  rw [h_d448] at Dd448
  refine s_l2d X444 hx (hb hby at_254) d448 h_d448 255 rfl ?_
  obtain ⟨T449, h449, X449, e449, W449, A449, st449⟩ := s_dastore X444 hx hZ e444 A444 (hb hby at_255) #[.val (.long i0), .second, .val (.long i1), .second, .val (.long i2), .second, .val (.long i3), .second, .val (.long i4), .second, .val (.long i5), .second, .val (.ref a330), .val (.ref a360), .unset, .unset, .unset, .unset, .unset, .unset] [.ref a401] (j := (8 : Int32)) 8 (by decide) (by show 8 < 9; decide) d448 [.double d408, .double d413, .double d418, .double d423, .double d428, .double d433, .double d438, .double d443, .double d448] rfl 256 rfl
  have N449 := Fr.snoc X449 N444 q404
  have F450 := F445.other W449 ne402
  have F451 := F446.other W449 ne403
  have Z452 : n0 ≤ h449.size := by rw [W449.size]; exact Z447
  refine Go.via st449 ?_
  refine s_astore X449 hx (hb hby at_256) rfl #[.val (.long i0), .second, .val (.long i1), .second, .val (.long i2), .second, .val (.long i3), .second, .val (.long i4), .second, .val (.long i5), .second, .val (.ref a330), .val (.ref a360), .val (.ref a401), .unset, .unset, .unset, .unset, .unset] rfl 258 rfl ?_
  refine s_bipush X449 hx (hb hby at_258) (9 : Int32) rfl 260 rfl ?_
  obtain ⟨T453, h453, c453, X453, e453, E453, A453, st453⟩ := s_newarray X449 hx hZ (aty := .double) (wd hw 7 _ rfl) e449 (hb hby at_260) #[.val (.long i0), .second, .val (.long i1), .second, .val (.long i2), .second, .val (.long i3), .second, .val (.long i4), .second, .val (.long i5), .second, .val (.ref a330), .val (.ref a360), .val (.ref a401), .unset, .unset, .unset, .unset, .unset] [] (n := (9 : Int32)) 9 (by decide) [.double (0 : UInt64), .double (0 : UInt64), .double (0 : UInt64), .double (0 : UInt64), .double (0 : UInt64), .double (0 : UInt64), .double (0 : UInt64), .double (0 : UInt64), .double (0 : UInt64)] rfl (by decide) (by decide) (by decide) 262 rfl
  obtain ⟨a453, g453⟩ : ∃ z, z = h449.size := ⟨_, rfl⟩
  rw [← g453] at A453 st453
  have ne454 : a330 ≠ a453 := by rw [g453]; exact Nat.ne_of_lt F450.lt
  have ne455 : a360 ≠ a453 := by rw [g453]; exact Nat.ne_of_lt F451.lt
  have ne456 : a401 ≠ a453 := by rw [g453]; exact Nat.ne_of_lt A449.lt
  have q457 : n0 ≤ a453 := by rw [g453]; exact Z452
  have F458 := F450.ext E453
  have F459 := F451.ext E453
  have F460 := A449.ext E453
  have Z461 := Nat.le_trans Z452 E453.1
  refine Go.via st453 ?_
  refine s_dup X453 hx (hb hby at_262) rfl 263 rfl ?_
  refine s_iconst X453 hx (hb hby at_263) (0 : Int32) rfl 264 rfl ?_
  refine s_aload X453 hx (hb hby at_264) rfl rfl 266 rfl ?_
  refine s_iconst X453 hx (hb hby at_266) (0 : Int32) rfl 267 rfl ?_
  refine s_laload X453 hx hZ e453 F459 (hb hby at_267) (j := (0 : Int32)) 0 (by decide) (.long z365) rfl 268 rfl ?_
  have Dd462 := Lb.l2d B365 (by decide)
  obtain ⟨d462, h_d462⟩ : ∃ v, (FP.l2d z365) = v := ⟨_, rfl⟩
  rw [h_d462] at Dd462
  refine s_l2d X453 hx (hb hby at_268) d462 h_d462 269 rfl ?_
  obtain ⟨T463, h463, X463, e463, W463, A463, st463⟩ := s_dastore X453 hx hZ e453 A453 (hb hby at_269) #[.val (.long i0), .second, .val (.long i1), .second, .val (.long i2), .second, .val (.long i3), .second, .val (.long i4), .second, .val (.long i5), .second, .val (.ref a330), .val (.ref a360), .val (.ref a401), .unset, .unset, .unset, .unset, .unset] [.ref a453] (j := (0 : Int32)) 0 (by decide) (by show 0 < 9; decide) d462 [.double d462, .double (0 : UInt64), .double (0 : UInt64), .double (0 : UInt64), .double (0 : UInt64), .double (0 : UInt64), .double (0 : UInt64), .double (0 : UInt64), .double (0 : UInt64)] rfl 270 rfl
  have N463 := Fr.snoc X463 N449 q457
  have F464 := F458.other W463 ne454
  have F465 := F459.other W463 ne455
  have F466 := F460.other W463 ne456
  have Z467 : n0 ≤ h463.size := by rw [W463.size]; exact Z461
  refine Go.via st463 ?_
  refine s_dup X463 hx (hb hby at_270) rfl 271 rfl ?_
  refine s_iconst X463 hx (hb hby at_271) (1 : Int32) rfl 272 rfl ?_
  refine s_aload X463 hx (hb hby at_272) rfl rfl 274 rfl ?_
  refine s_iconst X463 hx (hb hby at_274) (1 : Int32) rfl 275 rfl ?_
  refine s_laload X463 hx hZ e463 F465 (hb hby at_275) (j := (1 : Int32)) 1 (by decide) (.long z369) rfl 276 rfl ?_
  have Dd468 := Lb.l2d B369 (by decide)
  obtain ⟨d468, h_d468⟩ : ∃ v, (FP.l2d z369) = v := ⟨_, rfl⟩
  rw [h_d468] at Dd468
  refine s_l2d X463 hx (hb hby at_276) d468 h_d468 277 rfl ?_
  obtain ⟨T469, h469, X469, e469, W469, A469, st469⟩ := s_dastore X463 hx hZ e463 A463 (hb hby at_277) #[.val (.long i0), .second, .val (.long i1), .second, .val (.long i2), .second, .val (.long i3), .second, .val (.long i4), .second, .val (.long i5), .second, .val (.ref a330), .val (.ref a360), .val (.ref a401), .unset, .unset, .unset, .unset, .unset] [.ref a453] (j := (1 : Int32)) 1 (by decide) (by show 1 < 9; decide) d468 [.double d462, .double d468, .double (0 : UInt64), .double (0 : UInt64), .double (0 : UInt64), .double (0 : UInt64), .double (0 : UInt64), .double (0 : UInt64), .double (0 : UInt64)] rfl 278 rfl
  have N469 := Fr.snoc X469 N463 q457
  have F470 := F464.other W469 ne454
  have F471 := F465.other W469 ne455
  have F472 := F466.other W469 ne456
  have Z473 : n0 ≤ h469.size := by rw [W469.size]; exact Z467
  refine Go.via st469 ?_
  refine s_dup X469 hx (hb hby at_278) rfl 279 rfl ?_
  refine s_iconst X469 hx (hb hby at_279) (2 : Int32) rfl 280 rfl ?_
  refine s_aload X469 hx (hb hby at_280) rfl rfl 282 rfl ?_
  refine s_iconst X469 hx (hb hby at_282) (2 : Int32) rfl 283 rfl ?_
  refine s_laload X469 hx hZ e469 F471 (hb hby at_283) (j := (2 : Int32)) 2 (by decide) (.long z373) rfl 284 rfl ?_
  have Dd474 := Lb.l2d B373 (by decide)
  obtain ⟨d474, h_d474⟩ : ∃ v, (FP.l2d z373) = v := ⟨_, rfl⟩
  rw [h_d474] at Dd474
  refine s_l2d X469 hx (hb hby at_284) d474 h_d474 285 rfl ?_
  obtain ⟨T475, h475, X475, e475, W475, A475, st475⟩ := s_dastore X469 hx hZ e469 A469 (hb hby at_285) #[.val (.long i0), .second, .val (.long i1), .second, .val (.long i2), .second, .val (.long i3), .second, .val (.long i4), .second, .val (.long i5), .second, .val (.ref a330), .val (.ref a360), .val (.ref a401), .unset, .unset, .unset, .unset, .unset] [.ref a453] (j := (2 : Int32)) 2 (by decide) (by show 2 < 9; decide) d474 [.double d462, .double d468, .double d474, .double (0 : UInt64), .double (0 : UInt64), .double (0 : UInt64), .double (0 : UInt64), .double (0 : UInt64), .double (0 : UInt64)] rfl 286 rfl
  have N475 := Fr.snoc X475 N469 q457
  have F476 := F470.other W475 ne454
  have F477 := F471.other W475 ne455
  have F478 := F472.other W475 ne456
  have Z479 : n0 ≤ h475.size := by rw [W475.size]; exact Z473
  refine Go.via st475 ?_
  refine s_dup X475 hx (hb hby at_286) rfl 287 rfl ?_
  refine s_iconst X475 hx (hb hby at_287) (3 : Int32) rfl 288 rfl ?_
  refine s_aload X475 hx (hb hby at_288) rfl rfl 290 rfl ?_
  refine s_iconst X475 hx (hb hby at_290) (3 : Int32) rfl 291 rfl ?_
  refine s_laload X475 hx hZ e475 F477 (hb hby at_291) (j := (3 : Int32)) 3 (by decide) (.long z377) rfl 292 rfl ?_
  have Dd480 := Lb.l2d B377 (by decide)
  obtain ⟨d480, h_d480⟩ : ∃ v, (FP.l2d z377) = v := ⟨_, rfl⟩
  rw [h_d480] at Dd480
  refine s_l2d X475 hx (hb hby at_292) d480 h_d480 293 rfl ?_
  obtain ⟨T481, h481, X481, e481, W481, A481, st481⟩ := s_dastore X475 hx hZ e475 A475 (hb hby at_293) #[.val (.long i0), .second, .val (.long i1), .second, .val (.long i2), .second, .val (.long i3), .second, .val (.long i4), .second, .val (.long i5), .second, .val (.ref a330), .val (.ref a360), .val (.ref a401), .unset, .unset, .unset, .unset, .unset] [.ref a453] (j := (3 : Int32)) 3 (by decide) (by show 3 < 9; decide) d480 [.double d462, .double d468, .double d474, .double d480, .double (0 : UInt64), .double (0 : UInt64), .double (0 : UInt64), .double (0 : UInt64), .double (0 : UInt64)] rfl 294 rfl
  have N481 := Fr.snoc X481 N475 q457
  have F482 := F476.other W481 ne454
  have F483 := F477.other W481 ne455
  have F484 := F478.other W481 ne456
  have Z485 : n0 ≤ h481.size := by rw [W481.size]; exact Z479
  refine Go.via st481 ?_
  refine s_dup X481 hx (hb hby at_294) rfl 295 rfl ?_
  refine s_iconst X481 hx (hb hby at_295) (4 : Int32) rfl 296 rfl ?_
  refine s_aload X481 hx (hb hby at_296) rfl rfl 298 rfl ?_
  refine s_iconst X481 hx (hb hby at_298) (4 : Int32) rfl 299 rfl ?_
  refine s_laload X481 hx hZ e481 F483 (hb hby at_299) (j := (4 : Int32)) 4 (by decide) (.long z381) rfl 300 rfl ?_
  have Dd486 := Lb.l2d B381 (by decide)
  obtain ⟨d486, h_d486⟩ : ∃ v, (FP.l2d z381) = v := ⟨_, rfl⟩
  rw [h_d486] at Dd486
  refine s_l2d X481 hx (hb hby at_300) d486 h_d486 301 rfl ?_
  obtain ⟨T487, h487, X487, e487, W487, A487, st487⟩ := s_dastore X481 hx hZ e481 A481 (hb hby at_301) #[.val (.long i0), .second, .val (.long i1), .second, .val (.long i2), .second, .val (.long i3), .second, .val (.long i4), .second, .val (.long i5), .second, .val (.ref a330), .val (.ref a360), .val (.ref a401), .unset, .unset, .unset, .unset, .unset] [.ref a453] (j := (4 : Int32)) 4 (by decide) (by show 4 < 9; decide) d486 [.double d462, .double d468, .double d474, .double d480, .double d486, .double (0 : UInt64), .double (0 : UInt64), .double (0 : UInt64), .double (0 : UInt64)] rfl 302 rfl
  have N487 := Fr.snoc X487 N481 q457
  have F488 := F482.other W487 ne454
  have F489 := F483.other W487 ne455
  have F490 := F484.other W487 ne456
  have Z491 : n0 ≤ h487.size := by rw [W487.size]; exact Z485
  refine Go.via st487 ?_
  refine s_dup X487 hx (hb hby at_302) rfl 303 rfl ?_
  refine s_iconst X487 hx (hb hby at_303) (5 : Int32) rfl 304 rfl ?_
  refine s_aload X487 hx (hb hby at_304) rfl rfl 306 rfl ?_
  refine s_iconst X487 hx (hb hby at_306) (5 : Int32) rfl 307 rfl ?_
  refine s_laload X487 hx hZ e487 F489 (hb hby at_307) (j := (5 : Int32)) 5 (by decide) (.long z385) rfl 308 rfl ?_
  have Dd492 := Lb.l2d B385 (by decide)
  obtain ⟨d492, h_d492⟩ : ∃ v, (FP.l2d z385) = v := ⟨_, rfl⟩
  rw [h_d492] at Dd492
  refine s_l2d X487 hx (hb hby at_308) d492 h_d492 309 rfl ?_
  obtain ⟨T493, h493, X493, e493, W493, A493, st493⟩ := s_dastore X487 hx hZ e487 A487 (hb hby at_309) #[.val (.long i0), .second, .val (.long i1), .second, .val (.long i2), .second, .val (.long i3), .second, .val (.long i4), .second, .val (.long i5), .second, .val (.ref a330), .val (.ref a360), .val (.ref a401), .unset, .unset, .unset, .unset, .unset] [.ref a453] (j := (5 : Int32)) 5 (by decide) (by show 5 < 9; decide) d492 [.double d462, .double d468, .double d474, .double d480, .double d486, .double d492, .double (0 : UInt64), .double (0 : UInt64), .double (0 : UInt64)] rfl 310 rfl
  have N493 := Fr.snoc X493 N487 q457
  have F494 := F488.other W493 ne454
  have F495 := F489.other W493 ne455
  have F496 := F490.other W493 ne456
  have Z497 : n0 ≤ h493.size := by rw [W493.size]; exact Z491
  refine Go.via st493 ?_
  refine s_dup X493 hx (hb hby at_310) rfl 311 rfl ?_
  refine s_bipush X493 hx (hb hby at_311) (6 : Int32) rfl 313 rfl ?_
  refine s_aload X493 hx (hb hby at_313) rfl rfl 315 rfl ?_
  refine s_bipush X493 hx (hb hby at_315) (6 : Int32) rfl 317 rfl ?_
  refine s_laload X493 hx hZ e493 F495 (hb hby at_317) (j := (6 : Int32)) 6 (by decide) (.long z389) rfl 318 rfl ?_
  have Dd498 := Lb.l2d B389 (by decide)
  obtain ⟨d498, h_d498⟩ : ∃ v, (FP.l2d z389) = v := ⟨_, rfl⟩
  rw [h_d498] at Dd498
  refine s_l2d X493 hx (hb hby at_318) d498 h_d498 319 rfl ?_
  obtain ⟨T499, h499, X499, e499, W499, A499, st499⟩ := s_dastore X493 hx hZ e493 A493 (hb hby at_319) #[.val (.long i0), .second, .val (.long i1), .second, .val (.long i2), .second, .val (.long i3), .second, .val (.long i4), .second, .val (.long i5), .second, .val (.ref a330), .val (.ref a360), .val (.ref a401), .unset, .unset, .unset, .unset, .unset] [.ref a453] (j := (6 : Int32)) 6 (by decide) (by show 6 < 9; decide) d498 [.double d462, .double d468, .double d474, .double d480, .double d486, .double d492, .double d498, .double (0 : UInt64), .double (0 : UInt64)] rfl 320 rfl
  have N499 := Fr.snoc X499 N493 q457
  have F500 := F494.other W499 ne454
  have F501 := F495.other W499 ne455
  have F502 := F496.other W499 ne456
  have Z503 : n0 ≤ h499.size := by rw [W499.size]; exact Z497
  refine Go.via st499 ?_
  refine s_dup X499 hx (hb hby at_320) rfl 321 rfl ?_
  refine s_bipush X499 hx (hb hby at_321) (7 : Int32) rfl 323 rfl ?_
  refine s_aload X499 hx (hb hby at_323) rfl rfl 325 rfl ?_
  refine s_bipush X499 hx (hb hby at_325) (7 : Int32) rfl 327 rfl ?_
  refine s_laload X499 hx hZ e499 F501 (hb hby at_327) (j := (7 : Int32)) 7 (by decide) (.long z393) rfl 328 rfl ?_
  have Dd504 := Lb.l2d B393 (by decide)
  obtain ⟨d504, h_d504⟩ : ∃ v, (FP.l2d z393) = v := ⟨_, rfl⟩
  rw [h_d504] at Dd504
  refine s_l2d X499 hx (hb hby at_328) d504 h_d504 329 rfl ?_
  obtain ⟨T505, h505, X505, e505, W505, A505, st505⟩ := s_dastore X499 hx hZ e499 A499 (hb hby at_329) #[.val (.long i0), .second, .val (.long i1), .second, .val (.long i2), .second, .val (.long i3), .second, .val (.long i4), .second, .val (.long i5), .second, .val (.ref a330), .val (.ref a360), .val (.ref a401), .unset, .unset, .unset, .unset, .unset] [.ref a453] (j := (7 : Int32)) 7 (by decide) (by show 7 < 9; decide) d504 [.double d462, .double d468, .double d474, .double d480, .double d486, .double d492, .double d498, .double d504, .double (0 : UInt64)] rfl 330 rfl
  have N505 := Fr.snoc X505 N499 q457
  have F506 := F500.other W505 ne454
  have F507 := F501.other W505 ne455
  have F508 := F502.other W505 ne456
  have Z509 : n0 ≤ h505.size := by rw [W505.size]; exact Z503
  refine Go.via st505 ?_
  refine s_dup X505 hx (hb hby at_330) rfl 331 rfl ?_
  refine s_bipush X505 hx (hb hby at_331) (8 : Int32) rfl 333 rfl ?_
  refine s_aload X505 hx (hb hby at_333) rfl rfl 335 rfl ?_
  refine s_bipush X505 hx (hb hby at_335) (8 : Int32) rfl 337 rfl ?_
  refine s_laload X505 hx hZ e505 F507 (hb hby at_337) (j := (8 : Int32)) 8 (by decide) (.long z397) rfl 338 rfl ?_
  have Dd510 := Lb.l2d B397 (by decide)
  obtain ⟨d510, h_d510⟩ : ∃ v, (FP.l2d z397) = v := ⟨_, rfl⟩
  rw [h_d510] at Dd510
  refine s_l2d X505 hx (hb hby at_338) d510 h_d510 339 rfl ?_
  obtain ⟨T511, h511, X511, e511, W511, A511, st511⟩ := s_dastore X505 hx hZ e505 A505 (hb hby at_339) #[.val (.long i0), .second, .val (.long i1), .second, .val (.long i2), .second, .val (.long i3), .second, .val (.long i4), .second, .val (.long i5), .second, .val (.ref a330), .val (.ref a360), .val (.ref a401), .unset, .unset, .unset, .unset, .unset] [.ref a453] (j := (8 : Int32)) 8 (by decide) (by show 8 < 9; decide) d510 [.double d462, .double d468, .double d474, .double d480, .double d486, .double d492, .double d498, .double d504, .double d510] rfl 340 rfl
  have N511 := Fr.snoc X511 N505 q457
  have F512 := F506.other W511 ne454
  have F513 := F507.other W511 ne455
  have F514 := F508.other W511 ne456
  have Z515 : n0 ≤ h511.size := by rw [W511.size]; exact Z509
  refine Go.via st511 ?_
  refine s_astore X511 hx (hb hby at_340) rfl #[.val (.long i0), .second, .val (.long i1), .second, .val (.long i2), .second, .val (.long i3), .second, .val (.long i4), .second, .val (.long i5), .second, .val (.ref a330), .val (.ref a360), .val (.ref a401), .val (.ref a453), .unset, .unset, .unset, .unset] rfl 342 rfl ?_
  obtain ⟨T516, h516, X516, e516, E516, A516, D516, -, st516⟩ := newO X511 hx hZ hown (wd hw 8 _ rfl) (wd hw 9 _ rfl) (wd hw 10 _ rfl) e511 (g := (mkF m 342 #[.val (.long i0), .second, .val (.long i1), .second, .val (.long i2), .second, .val (.long i3), .second, .val (.long i4), .second, .val (.long i5), .second, .val (.ref a330), .val (.ref a360), .val (.ref a401), .val (.ref a453), .unset, .unset, .unset, .unset] [])) rfl (hb hby at_342) (by decide) (by decide)
  obtain ⟨a516, g516⟩ : ∃ z, z = h511.size := ⟨_, rfl⟩
  rw [← g516] at A516 D516 st516
  have ne517 : a330 ≠ a516 := by rw [g516]; exact Nat.ne_of_lt F512.lt
  have ne518 : a360 ≠ a516 := by rw [g516]; exact Nat.ne_of_lt F513.lt
  have ne519 : a401 ≠ a516 := by rw [g516]; exact Nat.ne_of_lt F514.lt
  have ne520 : a453 ≠ a516 := by rw [g516]; exact Nat.ne_of_lt A511.lt
  have q521 : n0 ≤ a516 := by rw [g516]; exact Z515
  have F522 := F512.ext E516
  have F523 := F513.ext E516
  have F524 := F514.ext E516
  have F525 := A511.ext E516
  have Z526 := Nat.le_trans Z515 E516.1
  have F527 : Fld Z h516 a516 "com/example/twelvefold/twelvefold/FrameTransformMatrix" "elements" "[D" (.null) := D516 (Or.inr (wd hw 18 _ rfl)) (ty := .array .double) (by decide)
  refine Go.via st516 ?_
  show Go p e below _ (T516.setTop (mkF m 345 #[.val (.long i0), .second, .val (.long i1), .second, .val (.long i2), .second, .val (.long i3), .second, .val (.long i4), .second, .val (.long i5), .second, .val (.ref a330), .val (.ref a360), .val (.ref a401), .val (.ref a453), .unset, .unset, .unset, .unset] [.ref a516]))
  refine s_dup X516 hx (hb hby at_345) rfl 346 rfl ?_
  refine s_aload X516 hx (hb hby at_346) rfl rfl 348 rfl ?_
  obtain ⟨v528, T528, L528, X528, hQ528, st528⟩ := callInit X516 hx hZ hown rfl (wd hw 11 _ rfl) (wd hw 12 _ rfl) (wd hw 10 _ rfl) (wd hw 13 _ rfl) (by decide) (rm_init l Z a0 hw [] a516 a401 h516 n0 Z526 A516 q521 F527 ) e516 (L := #[.val (.long i0), .second, .val (.long i1), .second, .val (.long i2), .second, .val (.long i3), .second, .val (.long i4), .second, .val (.long i5), .second, .val (.ref a330), .val (.ref a360), .val (.ref a401), .val (.ref a453), .unset, .unset, .unset, .unset]) (hb hby at_348) (by rw [hml]; rfl) a516 [.ref a401] [.ref a516] rfl rfl pd_1 rfl 1 (by show 2 * 0 + _ ≤ _; exact Nat.le_of_eq rfl) (by decide) (by decide) (by decide) (by decide)
  obtain ⟨rfl, N528, K528, G528_0⟩ := hQ528
  have M528 := Fr.app N511 N528
  have F529 := F522.keep K528 (ninS ne517 nin0)
  have F530 := F523.keep K528 (ninS ne518 nin0)
  have F531 := F524.keep K528 (ninS ne519 nin0)
  have F532 := F525.keep K528 (ninS ne520 nin0)
  have F533 := A516.keep K528
  have Z534 := Nat.le_trans Z526 K528.1
  have e528 : T528.heap = T528.heap := rfl
  refine Go.via st528 ?_
  show Go p e below _ (T528.setTop (mkF m 351 #[.val (.long i0), .second, .val (.long i1), .second, .val (.long i2), .second, .val (.long i3), .second, .val (.long i4), .second, .val (.long i5), .second, .val (.ref a330), .val (.ref a360), .val (.ref a401), .val (.ref a453), .unset, .unset, .unset, .unset] [.ref a516]))
  refine s_astore X528 hx (hb hby at_351) rfl #[.val (.long i0), .second, .val (.long i1), .second, .val (.long i2), .second, .val (.long i3), .second, .val (.long i4), .second, .val (.long i5), .second, .val (.ref a330), .val (.ref a360), .val (.ref a401), .val (.ref a453), .val (.ref a516), .unset, .unset, .unset] rfl 353 rfl ?_
  obtain ⟨T535, h535, X535, e535, E535, A535, D535, -, st535⟩ := newO X528 hx hZ hown (wd hw 8 _ rfl) (wd hw 9 _ rfl) (wd hw 10 _ rfl) e528 (g := (mkF m 353 #[.val (.long i0), .second, .val (.long i1), .second, .val (.long i2), .second, .val (.long i3), .second, .val (.long i4), .second, .val (.long i5), .second, .val (.ref a330), .val (.ref a360), .val (.ref a401), .val (.ref a453), .val (.ref a516), .unset, .unset, .unset] [])) rfl (hb hby at_353) (by decide) (by decide)
  obtain ⟨a535, g535⟩ : ∃ z, z = T528.heap.size := ⟨_, rfl⟩
  rw [← g535] at A535 D535 st535
  have ne536 : a330 ≠ a535 := by rw [g535]; exact Nat.ne_of_lt F529.lt
  have ne537 : a360 ≠ a535 := by rw [g535]; exact Nat.ne_of_lt F530.lt
  have ne538 : a401 ≠ a535 := by rw [g535]; exact Nat.ne_of_lt F531.lt
  have ne539 : a453 ≠ a535 := by rw [g535]; exact Nat.ne_of_lt F532.lt
  have ne540 : a516 ≠ a535 := by rw [g535]; exact Nat.ne_of_lt F533.lt
  have q541 : n0 ≤ a535 := by rw [g535]; exact Z534
  have F542 := F529.ext E535
  have F543 := F530.ext E535
  have F544 := F531.ext E535
  have F545 := F532.ext E535
  have F546 := F533.ext E535
  have F547 := G528_0.ext E535
  have Z548 := Nat.le_trans Z534 E535.1
  have F549 : Fld Z h535 a535 "com/example/twelvefold/twelvefold/FrameTransformMatrix" "elements" "[D" (.null) := D535 (Or.inr (wd hw 18 _ rfl)) (ty := .array .double) (by decide)
  refine Go.via st535 ?_
  show Go p e below _ (T535.setTop (mkF m 356 #[.val (.long i0), .second, .val (.long i1), .second, .val (.long i2), .second, .val (.long i3), .second, .val (.long i4), .second, .val (.long i5), .second, .val (.ref a330), .val (.ref a360), .val (.ref a401), .val (.ref a453), .val (.ref a516), .unset, .unset, .unset] [.ref a535]))
  refine s_dup X535 hx (hb hby at_356) rfl 357 rfl ?_
  refine s_aload X535 hx (hb hby at_357) rfl rfl 359 rfl ?_
  obtain ⟨v550, T550, L550, X550, hQ550, st550⟩ := callInit X535 hx hZ hown rfl (wd hw 11 _ rfl) (wd hw 12 _ rfl) (wd hw 10 _ rfl) (wd hw 13 _ rfl) (by decide) (rm_init l Z a0 hw [] a535 a453 h535 n0 Z548 A535 q541 F549 ) e535 (L := #[.val (.long i0), .second, .val (.long i1), .second, .val (.long i2), .second, .val (.long i3), .second, .val (.long i4), .second, .val (.long i5), .second, .val (.ref a330), .val (.ref a360), .val (.ref a401), .val (.ref a453), .val (.ref a516), .unset, .unset, .unset]) (hb hby at_359) (by rw [hml]; rfl) a535 [.ref a453] [.ref a535] rfl rfl pd_1 rfl 1 (by show 2 * 0 + _ ≤ _; exact Nat.le_of_eq rfl) (by decide) (by decide) (by decide) (by decide)
  obtain ⟨rfl, N550, K550, G550_0⟩ := hQ550
  have M550 := Fr.app M528 N550
  have F551 := F542.keep K550 (ninS ne536 nin0)
  have F552 := F543.keep K550 (ninS ne537 nin0)
  have F553 := F544.keep K550 (ninS ne538 nin0)
  have F554 := F545.keep K550 (ninS ne539 nin0)
  have F555 := F546.keep K550
  have F556 := F547.keep K550 (ninS ne540 nin0)
  have F557 := A535.keep K550
  have Z558 := Nat.le_trans Z548 K550.1
  have e550 : T550.heap = T550.heap := rfl
  refine Go.via st550 ?_
  show Go p e below _ (T550.setTop (mkF m 362 #[.val (.long i0), .second, .val (.long i1), .second, .val (.long i2), .second, .val (.long i3), .second, .val (.long i4), .second, .val (.long i5), .second, .val (.ref a330), .val (.ref a360), .val (.ref a401), .val (.ref a453), .val (.ref a516), .unset, .unset, .unset] [.ref a535]))
  refine s_astore X550 hx (hb hby at_362) rfl #[.val (.long i0), .second, .val (.long i1), .second, .val (.long i2), .second, .val (.long i3), .second, .val (.long i4), .second, .val (.long i5), .second, .val (.ref a330), .val (.ref a360), .val (.ref a401), .val (.ref a453), .val (.ref a516), .val (.ref a535), .unset, .unset] rfl 364 rfl ?_
  refine s_aload X550 hx (hb hby at_364) rfl rfl 366 rfl ?_
  refine s_aload X550 hx (hb hby at_366) rfl rfl 368 rfl ?_
  obtain ⟨v559, T559, L559, X559, hQ559, st559⟩ := callVirt X550 hx hZ hown (wd hw 19 _ rfl) (wd hw 20 _ rfl) (wd hw 22 _ rfl) (wd hw 21 _ rfl) (wd hw 10 _ rfl) (wd hw 23 _ rfl) (by decide) (rm_times l Z a0 hw [] a516 a401 a535 a453 c401 c453 d408 d413 d418 d423 d428 d433 d438 d443 d448 d462 d468 d474 d480 d486 d492 d498 d504 d510 _ _ _ _ _ _ _ _ _ _ _ _ _ _ _ _ _ _ T550.heap n0 Z558 F555 F556 F553 G550_0 F554 Dd408 Dd413 Dd418 Dd423 Dd428 Dd433 Dd438 Dd443 Dd448 Dd462 Dd468 Dd474 Dd480 Dd486 Dd492 Dd498 Dd504 Dd510) e550 a516 F555 (L := #[.val (.long i0), .second, .val (.long i1), .second, .val (.long i2), .second, .val (.long i3), .second, .val (.long i4), .second, .val (.long i5), .second, .val (.ref a330), .val (.ref a360), .val (.ref a401), .val (.ref a453), .val (.ref a516), .val (.ref a535), .unset, .unset]) (hb hby at_368) (by rw [hml]; rfl) [.ref a535] [] rfl rfl pd_3 rfl 0 (by show 2 * 0 + _ ≤ _; exact Nat.le_of_eq rfl) (by decide) (by decide) (by decide) (by decide)
  obtain ⟨a559, b559, c559, d559_0, d559_1, d559_2, d559_3, d559_4, d559_5, d559_6, d559_7, d559_8, rfl, N559, K559, g559, g559_1, i559, F559, A559, B559_0, B559_1, B559_2, B559_3, B559_4, B559_5, B559_6, B559_7, B559_8⟩ := hQ559
  have M559 := Fr.app M550 N559
  have ne560 : a330 ≠ a559 := Nat.ne_of_lt (Nat.lt_of_lt_of_le F551.lt g559)
  have ne561 : a360 ≠ a559 := Nat.ne_of_lt (Nat.lt_of_lt_of_le F552.lt g559)
  have ne562 : a401 ≠ a559 := Nat.ne_of_lt (Nat.lt_of_lt_of_le F553.lt g559)
  have ne563 : a453 ≠ a559 := Nat.ne_of_lt (Nat.lt_of_lt_of_le F554.lt g559)
  have ne564 : a516 ≠ a559 := Nat.ne_of_lt (Nat.lt_of_lt_of_le F555.lt g559)
  have ne565 : a535 ≠ a559 := Nat.ne_of_lt (Nat.lt_of_lt_of_le F557.lt g559)
  have q566 : n0 ≤ a559 := Nat.le_trans Z558 g559
  have ne567 : a330 ≠ b559 := Nat.ne_of_lt (Nat.lt_of_lt_of_le F551.lt g559_1)
  have ne568 : a360 ≠ b559 := Nat.ne_of_lt (Nat.lt_of_lt_of_le F552.lt g559_1)
  have ne569 : a401 ≠ b559 := Nat.ne_of_lt (Nat.lt_of_lt_of_le F553.lt g559_1)
  have ne570 : a453 ≠ b559 := Nat.ne_of_lt (Nat.lt_of_lt_of_le F554.lt g559_1)
  have ne571 : a516 ≠ b559 := Nat.ne_of_lt (Nat.lt_of_lt_of_le F555.lt g559_1)
  have ne572 : a535 ≠ b559 := Nat.ne_of_lt (Nat.lt_of_lt_of_le F557.lt g559_1)
  have q573 : n0 ≤ b559 := Nat.le_trans Z558 g559_1
  have F574 := F551.keep K559 nin0
  have F575 := F552.keep K559 nin0
  have F576 := F553.keep K559 nin0
  have F577 := F554.keep K559 nin0
  have F578 := F555.keep K559
  have F579 := F556.keep K559 nin0
  have F580 := F557.keep K559
  have F581 := G550_0.keep K559 nin0
  have Z582 := Nat.le_trans Z558 K559.1
  have e559 : T559.heap = T559.heap := rfl
  refine Go.via st559 ?_
  show Go p e below _ (T559.setTop (mkF m 371 #[.val (.long i0), .second, .val (.long i1), .second, .val (.long i2), .second, .val (.long i3), .second, .val (.long i4), .second, .val (.long i5), .second, .val (.ref a330), .val (.ref a360), .val (.ref a401), .val (.ref a453), .val (.ref a516), .val (.ref a535), .unset, .unset] [.ref a559]))
  refine s_astore X559 hx (hb hby at_371) rfl #[.val (.long i0), .second, .val (.long i1), .second, .val (.long i2), .second, .val (.long i3), .second, .val (.long i4), .second, .val (.long i5), .second, .val (.ref a330), .val (.ref a360), .val (.ref a401), .val (.ref a453), .val (.ref a516), .val (.ref a535), .val (.ref a559), .unset] rfl 373 rfl ?_
  refine s_aload X559 hx (hb hby at_373) rfl rfl 375 rfl ?_
  obtain ⟨T583, X583, e583, st583⟩ := getF X559 hx hZ hown (host := "") (Or.inl (wd hw 36 _ rfl)) Via.refl e559 F559 (g := (mkF m 375 #[.val (.long i0), .second, .val (.long i1), .second, .val (.long i2), .second, .val (.long i3), .second, .val (.long i4), .second, .val (.long i5), .second, .val (.ref a330), .val (.ref a360), .val (.ref a401), .val (.ref a453), .val (.ref a516), .val (.ref a535), .val (.ref a559), .unset] [.ref a559])) rfl rfl (hb hby at_375)
  refine Go.via st583 ?_
  show Go p e below _ (T583.setTop (mkF m 378 #[.val (.long i0), .second, .val (.long i1), .second, .val (.long i2), .second, .val (.long i3), .second, .val (.long i4), .second, .val (.long i5), .second, .val (.ref a330), .val (.ref a360), .val (.ref a401), .val (.ref a453), .val (.ref a516), .val (.ref a535), .val (.ref a559), .unset] [.ref b559]))
  refine s_astore X583 hx (hb hby at_378) rfl #[.val (.long i0), .second, .val (.long i1), .second, .val (.long i2), .second, .val (.long i3), .second, .val (.long i4), .second, .val (.long i5), .second, .val (.ref a330), .val (.ref a360), .val (.ref a401), .val (.ref a453), .val (.ref a516), .val (.ref a535), .val (.ref a559), .val (.ref b559)] rfl 380 rfl ?_
  refine s_aload X583 hx (hb hby at_380) rfl rfl 382 rfl ?_
  refine s_ifnullN X583 hx (hb hby at_382) 385 rfl ?_
  refine s_aload X583 hx (hb hby at_385) rfl rfl 387 rfl ?_
  refine s_len X583 hx hZ e583 A559 (hb hby at_387) (9 : Int32) rfl 388 rfl ?_
  refine s_bipush X583 hx (hb hby at_388) (9 : Int32) rfl 390 rfl ?_
  refine s_icmpY X583 hx (hb hby at_390) (by decide) 395 (by decide) (by decide) ?_
  refine s_aload X583 hx (hb hby at_395) rfl rfl 397 rfl ?_
  refine s_aload X583 hx (hb hby at_397) rfl rfl 399 rfl ?_
  refine s_aload X583 hx (hb hby at_399) rfl rfl 401 rfl ?_
  refine s_iconst X583 hx (hb hby at_401) (0 : Int32) rfl 402 rfl ?_
  refine s_iconst X583 hx (hb hby at_402) (0 : Int32) rfl 403 rfl ?_
  obtain ⟨v584, T584, L584, X584, hQ584, st584⟩ := callStat X583 hx hZ hown (wd hw 37 _ rfl) (wd hw 38 _ rfl) (wd hw 3 _ rfl) (wd hw 39 _ rfl) (by decide) (rm_en00 l Z a0 hw [] b559 a330 a360 c559 c330 c360 d559_0 d559_1 d559_2 d559_3 d559_4 d559_5 d559_6 d559_7 d559_8 z333 z336 z339 z342 z345 z348 z351 z354 z357 z365 z369 z373 z377 z381 z385 z389 z393 z397 T559.heap n0 Z582 A559 F574 F575 (Db.eq B559_0 (Lb.l2d (Lb.add (Lb.add (Lb.mul B333 B365 (by decide)) (Lb.mul B336 B377 (by decide)) (by decide)) (Lb.mul B339 B389 (by decide)) (by decide)) (by decide)) rfl)) e583 (L := #[.val (.long i0), .second, .val (.long i1), .second, .val (.long i2), .second, .val (.long i3), .second, .val (.long i4), .second, .val (.long i5), .second, .val (.ref a330), .val (.ref a360), .val (.ref a401), .val (.ref a453), .val (.ref a516), .val (.ref a535), .val (.ref a559), .val (.ref b559)]) (hb hby at_403) (by rw [hml]; rfl) [.ref b559, .ref a330, .ref a360, .int (0 : Int32), .int (0 : Int32)] [] rfl rfl pd_7 rfl 0 (by show 2 * 0 + _ ≤ _; exact Nat.le_of_eq rfl) (by decide) (by decide) (by decide) (by decide)
  obtain ⟨rfl, N584, hh584⟩ := hQ584
  have M584 := Fr.app M559 N584
  refine Go.via st584 ?_
  show Go p e below _ (T584.setTop (mkF m 406 #[.val (.long i0), .second, .val (.long i1), .second, .val (.long i2), .second, .val (.long i3), .second, .val (.long i4), .second, .val (.long i5), .second, .val (.ref a330), .val (.ref a360), .val (.ref a401), .val (.ref a453), .val (.ref a516), .val (.ref a535), .val (.ref a559), .val (.ref b559)] [.int (1 : Int32)]))
  refine s_ifN X584 hx (hb hby at_406) (by decide) 409 rfl ?_
  refine s_aload X584 hx (hb hby at_409) rfl rfl 411 rfl ?_
  refine s_aload X584 hx (hb hby at_411) rfl rfl 413 rfl ?_
  refine s_aload X584 hx (hb hby at_413) rfl rfl 415 rfl ?_
  refine s_iconst X584 hx (hb hby at_415) (0 : Int32) rfl 416 rfl ?_
  refine s_iconst X584 hx (hb hby at_416) (1 : Int32) rfl 417 rfl ?_
  obtain ⟨v585, T585, L585, X585, hQ585, st585⟩ := callStat X584 hx hZ hown (wd hw 37 _ rfl) (wd hw 38 _ rfl) (wd hw 3 _ rfl) (wd hw 39 _ rfl) (by decide) (rm_en01 l Z a0 hw [] b559 a330 a360 c559 c330 c360 d559_0 d559_1 d559_2 d559_3 d559_4 d559_5 d559_6 d559_7 d559_8 z333 z336 z339 z342 z345 z348 z351 z354 z357 z365 z369 z373 z377 z381 z385 z389 z393 z397 T559.heap n0 Z582 A559 F574 F575 (Db.eq B559_1 (Lb.l2d (Lb.add (Lb.add (Lb.mul B333 B369 (by decide)) (Lb.mul B336 B381 (by decide)) (by decide)) (Lb.mul B339 B393 (by decide)) (by decide)) (by decide)) rfl)) hh584 (L := #[.val (.long i0), .second, .val (.long i1), .second, .val (.long i2), .second, .val (.long i3), .second, .val (.long i4), .second, .val (.long i5), .second, .val (.ref a330), .val (.ref a360), .val (.ref a401), .val (.ref a453), .val (.ref a516), .val (.ref a535), .val (.ref a559), .val (.ref b559)]) (hb hby at_417) (by rw [hml]; rfl) [.ref b559, .ref a330, .ref a360, .int (0 : Int32), .int (1 : Int32)] [] rfl rfl pd_7 rfl 0 (by show 2 * 0 + _ ≤ _; exact Nat.le_of_eq rfl) (by decide) (by decide) (by decide) (by decide)
  obtain ⟨rfl, N585, hh585⟩ := hQ585
  have M585 := Fr.app M584 N585
  refine Go.via st585 ?_
  show Go p e below _ (T585.setTop (mkF m 420 #[.val (.long i0), .second, .val (.long i1), .second, .val (.long i2), .second, .val (.long i3), .second, .val (.long i4), .second, .val (.long i5), .second, .val (.ref a330), .val (.ref a360), .val (.ref a401), .val (.ref a453), .val (.ref a516), .val (.ref a535), .val (.ref a559), .val (.ref b559)] [.int (1 : Int32)]))
  refine s_ifN X585 hx (hb hby at_420) (by decide) 423 rfl ?_
  refine s_aload X585 hx (hb hby at_423) rfl rfl 425 rfl ?_
  refine s_aload X585 hx (hb hby at_425) rfl rfl 427 rfl ?_
  refine s_aload X585 hx (hb hby at_427) rfl rfl 429 rfl ?_
  refine s_iconst X585 hx (hb hby at_429) (0 : Int32) rfl 430 rfl ?_
  refine s_iconst X585 hx (hb hby at_430) (2 : Int32) rfl 431 rfl ?_
  obtain ⟨v586, T586, L586, X586, hQ586, st586⟩ := callStat X585 hx hZ hown (wd hw 37 _ rfl) (wd hw 38 _ rfl) (wd hw 3 _ rfl) (wd hw 39 _ rfl) (by decide) (rm_en02 l Z a0 hw [] b559 a330 a360 c559 c330 c360 d559_0 d559_1 d559_2 d559_3 d559_4 d559_5 d559_6 d559_7 d559_8 z333 z336 z339 z342 z345 z348 z351 z354 z357 z365 z369 z373 z377 z381 z385 z389 z393 z397 T559.heap n0 Z582 A559 F574 F575 (Db.eq B559_2 (Lb.l2d (Lb.add (Lb.add (Lb.mul B333 B373 (by decide)) (Lb.mul B336 B385 (by decide)) (by decide)) (Lb.mul B339 B397 (by decide)) (by decide)) (by decide)) rfl)) hh585 (L := #[.val (.long i0), .second, .val (.long i1), .second, .val (.long i2), .second, .val (.long i3), .second, .val (.long i4), .second, .val (.long i5), .second, .val (.ref a330), .val (.ref a360), .val (.ref a401), .val (.ref a453), .val (.ref a516), .val (.ref a535), .val (.ref a559), .val (.ref b559)]) (hb hby at_431) (by rw [hml]; rfl) [.ref b559, .ref a330, .ref a360, .int (0 : Int32), .int (2 : Int32)] [] rfl rfl pd_7 rfl 0 (by show 2 * 0 + _ ≤ _; exact Nat.le_of_eq rfl) (by decide) (by decide) (by decide) (by decide)
  obtain ⟨rfl, N586, hh586⟩ := hQ586
  have M586 := Fr.app M585 N586
  refine Go.via st586 ?_
  show Go p e below _ (T586.setTop (mkF m 434 #[.val (.long i0), .second, .val (.long i1), .second, .val (.long i2), .second, .val (.long i3), .second, .val (.long i4), .second, .val (.long i5), .second, .val (.ref a330), .val (.ref a360), .val (.ref a401), .val (.ref a453), .val (.ref a516), .val (.ref a535), .val (.ref a559), .val (.ref b559)] [.int (1 : Int32)]))
  refine s_ifN X586 hx (hb hby at_434) (by decide) 437 rfl ?_
  refine s_aload X586 hx (hb hby at_437) rfl rfl 439 rfl ?_
  refine s_aload X586 hx (hb hby at_439) rfl rfl 441 rfl ?_
  refine s_aload X586 hx (hb hby at_441) rfl rfl 443 rfl ?_
  refine s_iconst X586 hx (hb hby at_443) (1 : Int32) rfl 444 rfl ?_
  refine s_iconst X586 hx (hb hby at_444) (0 : Int32) rfl 445 rfl ?_
  obtain ⟨v587, T587, L587, X587, hQ587, st587⟩ := callStat X586 hx hZ hown (wd hw 37 _ rfl) (wd hw 38 _ rfl) (wd hw 3 _ rfl) (wd hw 39 _ rfl) (by decide) (rm_en10 l Z a0 hw [] b559 a330 a360 c559 c330 c360 d559_0 d559_1 d559_2 d559_3 d559_4 d559_5 d559_6 d559_7 d559_8 z333 z336 z339 z342 z345 z348 z351 z354 z357 z365 z369 z373 z377 z381 z385 z389 z393 z397 T559.heap n0 Z582 A559 F574 F575 (Db.eq B559_3 (Lb.l2d (Lb.add (Lb.add (Lb.mul B342 B365 (by decide)) (Lb.mul B345 B377 (by decide)) (by decide)) (Lb.mul B348 B389 (by decide)) (by decide)) (by decide)) rfl)) hh586 (L := #[.val (.long i0), .second, .val (.long i1), .second, .val (.long i2), .second, .val (.long i3), .second, .val (.long i4), .second, .val (.long i5), .second, .val (.ref a330), .val (.ref a360), .val (.ref a401), .val (.ref a453), .val (.ref a516), .val (.ref a535), .val (.ref a559), .val (.ref b559)]) (hb hby at_445) (by rw [hml]; rfl) [.ref b559, .ref a330, .ref a360, .int (1 : Int32), .int (0 : Int32)] [] rfl rfl pd_7 rfl 0 (by show 2 * 0 + _ ≤ _; exact Nat.le_of_eq rfl) (by decide) (by decide) (by decide) (by decide)
  obtain ⟨rfl, N587, hh587⟩ := hQ587
  have M587 := Fr.app M586 N587
  refine Go.via st587 ?_
  show Go p e below _ (T587.setTop (mkF m 448 #[.val (.long i0), .second, .val (.long i1), .second, .val (.long i2), .second, .val (.long i3), .second, .val (.long i4), .second, .val (.long i5), .second, .val (.ref a330), .val (.ref a360), .val (.ref a401), .val (.ref a453), .val (.ref a516), .val (.ref a535), .val (.ref a559), .val (.ref b559)] [.int (1 : Int32)]))
  refine s_ifN X587 hx (hb hby at_448) (by decide) 451 rfl ?_
  refine s_aload X587 hx (hb hby at_451) rfl rfl 453 rfl ?_
  refine s_aload X587 hx (hb hby at_453) rfl rfl 455 rfl ?_
  refine s_aload X587 hx (hb hby at_455) rfl rfl 457 rfl ?_
  refine s_iconst X587 hx (hb hby at_457) (1 : Int32) rfl 458 rfl ?_
  refine s_iconst X587 hx (hb hby at_458) (1 : Int32) rfl 459 rfl ?_
  obtain ⟨v588, T588, L588, X588, hQ588, st588⟩ := callStat X587 hx hZ hown (wd hw 37 _ rfl) (wd hw 38 _ rfl) (wd hw 3 _ rfl) (wd hw 39 _ rfl) (by decide) (rm_en11 l Z a0 hw [] b559 a330 a360 c559 c330 c360 d559_0 d559_1 d559_2 d559_3 d559_4 d559_5 d559_6 d559_7 d559_8 z333 z336 z339 z342 z345 z348 z351 z354 z357 z365 z369 z373 z377 z381 z385 z389 z393 z397 T559.heap n0 Z582 A559 F574 F575 (Db.eq B559_4 (Lb.l2d (Lb.add (Lb.add (Lb.mul B342 B369 (by decide)) (Lb.mul B345 B381 (by decide)) (by decide)) (Lb.mul B348 B393 (by decide)) (by decide)) (by decide)) rfl)) hh587 (L := #[.val (.long i0), .second, .val (.long i1), .second, .val (.long i2), .second, .val (.long i3), .second, .val (.long i4), .second, .val (.long i5), .second, .val (.ref a330), .val (.ref a360), .val (.ref a401), .val (.ref a453), .val (.ref a516), .val (.ref a535), .val (.ref a559), .val (.ref b559)]) (hb hby at_459) (by rw [hml]; rfl) [.ref b559, .ref a330, .ref a360, .int (1 : Int32), .int (1 : Int32)] [] rfl rfl pd_7 rfl 0 (by show 2 * 0 + _ ≤ _; exact Nat.le_of_eq rfl) (by decide) (by decide) (by decide) (by decide)
  obtain ⟨rfl, N588, hh588⟩ := hQ588
  have M588 := Fr.app M587 N588
  refine Go.via st588 ?_
  show Go p e below _ (T588.setTop (mkF m 462 #[.val (.long i0), .second, .val (.long i1), .second, .val (.long i2), .second, .val (.long i3), .second, .val (.long i4), .second, .val (.long i5), .second, .val (.ref a330), .val (.ref a360), .val (.ref a401), .val (.ref a453), .val (.ref a516), .val (.ref a535), .val (.ref a559), .val (.ref b559)] [.int (1 : Int32)]))
  refine s_ifN X588 hx (hb hby at_462) (by decide) 465 rfl ?_
  refine s_aload X588 hx (hb hby at_465) rfl rfl 467 rfl ?_
  refine s_aload X588 hx (hb hby at_467) rfl rfl 469 rfl ?_
  refine s_aload X588 hx (hb hby at_469) rfl rfl 471 rfl ?_
  refine s_iconst X588 hx (hb hby at_471) (1 : Int32) rfl 472 rfl ?_
  refine s_iconst X588 hx (hb hby at_472) (2 : Int32) rfl 473 rfl ?_
  obtain ⟨v589, T589, L589, X589, hQ589, st589⟩ := callStat X588 hx hZ hown (wd hw 37 _ rfl) (wd hw 38 _ rfl) (wd hw 3 _ rfl) (wd hw 39 _ rfl) (by decide) (rm_en12 l Z a0 hw [] b559 a330 a360 c559 c330 c360 d559_0 d559_1 d559_2 d559_3 d559_4 d559_5 d559_6 d559_7 d559_8 z333 z336 z339 z342 z345 z348 z351 z354 z357 z365 z369 z373 z377 z381 z385 z389 z393 z397 T559.heap n0 Z582 A559 F574 F575 (Db.eq B559_5 (Lb.l2d (Lb.add (Lb.add (Lb.mul B342 B373 (by decide)) (Lb.mul B345 B385 (by decide)) (by decide)) (Lb.mul B348 B397 (by decide)) (by decide)) (by decide)) rfl)) hh588 (L := #[.val (.long i0), .second, .val (.long i1), .second, .val (.long i2), .second, .val (.long i3), .second, .val (.long i4), .second, .val (.long i5), .second, .val (.ref a330), .val (.ref a360), .val (.ref a401), .val (.ref a453), .val (.ref a516), .val (.ref a535), .val (.ref a559), .val (.ref b559)]) (hb hby at_473) (by rw [hml]; rfl) [.ref b559, .ref a330, .ref a360, .int (1 : Int32), .int (2 : Int32)] [] rfl rfl pd_7 rfl 0 (by show 2 * 0 + _ ≤ _; exact Nat.le_of_eq rfl) (by decide) (by decide) (by decide) (by decide)
  obtain ⟨rfl, N589, hh589⟩ := hQ589
  have M589 := Fr.app M588 N589
  refine Go.via st589 ?_
  show Go p e below _ (T589.setTop (mkF m 476 #[.val (.long i0), .second, .val (.long i1), .second, .val (.long i2), .second, .val (.long i3), .second, .val (.long i4), .second, .val (.long i5), .second, .val (.ref a330), .val (.ref a360), .val (.ref a401), .val (.ref a453), .val (.ref a516), .val (.ref a535), .val (.ref a559), .val (.ref b559)] [.int (1 : Int32)]))
  refine s_ifN X589 hx (hb hby at_476) (by decide) 479 rfl ?_
  refine s_aload X589 hx (hb hby at_479) rfl rfl 481 rfl ?_
  refine s_aload X589 hx (hb hby at_481) rfl rfl 483 rfl ?_
  refine s_aload X589 hx (hb hby at_483) rfl rfl 485 rfl ?_
  refine s_iconst X589 hx (hb hby at_485) (2 : Int32) rfl 486 rfl ?_
  refine s_iconst X589 hx (hb hby at_486) (0 : Int32) rfl 487 rfl ?_
  obtain ⟨v590, T590, L590, X590, hQ590, st590⟩ := callStat X589 hx hZ hown (wd hw 37 _ rfl) (wd hw 38 _ rfl) (wd hw 3 _ rfl) (wd hw 39 _ rfl) (by decide) (rm_en20 l Z a0 hw [] b559 a330 a360 c559 c330 c360 d559_0 d559_1 d559_2 d559_3 d559_4 d559_5 d559_6 d559_7 d559_8 z333 z336 z339 z342 z345 z348 z351 z354 z357 z365 z369 z373 z377 z381 z385 z389 z393 z397 T559.heap n0 Z582 A559 F574 F575 (Db.eq B559_6 (Lb.l2d (Lb.add (Lb.add (Lb.mul B351 B365 (by decide)) (Lb.mul B354 B377 (by decide)) (by decide)) (Lb.mul B357 B389 (by decide)) (by decide)) (by decide)) rfl)) hh589 (L := #[.val (.long i0), .second, .val (.long i1), .second, .val (.long i2), .second, .val (.long i3), .second, .val (.long i4), .second, .val (.long i5), .second, .val (.ref a330), .val (.ref a360), .val (.ref a401), .val (.ref a453), .val (.ref a516), .val (.ref a535), .val (.ref a559), .val (.ref b559)]) (hb hby at_487) (by rw [hml]; rfl) [.ref b559, .ref a330, .ref a360, .int (2 : Int32), .int (0 : Int32)] [] rfl rfl pd_7 rfl 0 (by show 2 * 0 + _ ≤ _; exact Nat.le_of_eq rfl) (by decide) (by decide) (by decide) (by decide)
  obtain ⟨rfl, N590, hh590⟩ := hQ590
  have M590 := Fr.app M589 N590
  refine Go.via st590 ?_
  show Go p e below _ (T590.setTop (mkF m 490 #[.val (.long i0), .second, .val (.long i1), .second, .val (.long i2), .second, .val (.long i3), .second, .val (.long i4), .second, .val (.long i5), .second, .val (.ref a330), .val (.ref a360), .val (.ref a401), .val (.ref a453), .val (.ref a516), .val (.ref a535), .val (.ref a559), .val (.ref b559)] [.int (1 : Int32)]))
  refine s_ifN X590 hx (hb hby at_490) (by decide) 493 rfl ?_
  refine s_aload X590 hx (hb hby at_493) rfl rfl 495 rfl ?_
  refine s_aload X590 hx (hb hby at_495) rfl rfl 497 rfl ?_
  refine s_aload X590 hx (hb hby at_497) rfl rfl 499 rfl ?_
  refine s_iconst X590 hx (hb hby at_499) (2 : Int32) rfl 500 rfl ?_
  refine s_iconst X590 hx (hb hby at_500) (1 : Int32) rfl 501 rfl ?_
  obtain ⟨v591, T591, L591, X591, hQ591, st591⟩ := callStat X590 hx hZ hown (wd hw 37 _ rfl) (wd hw 38 _ rfl) (wd hw 3 _ rfl) (wd hw 39 _ rfl) (by decide) (rm_en21 l Z a0 hw [] b559 a330 a360 c559 c330 c360 d559_0 d559_1 d559_2 d559_3 d559_4 d559_5 d559_6 d559_7 d559_8 z333 z336 z339 z342 z345 z348 z351 z354 z357 z365 z369 z373 z377 z381 z385 z389 z393 z397 T559.heap n0 Z582 A559 F574 F575 (Db.eq B559_7 (Lb.l2d (Lb.add (Lb.add (Lb.mul B351 B369 (by decide)) (Lb.mul B354 B381 (by decide)) (by decide)) (Lb.mul B357 B393 (by decide)) (by decide)) (by decide)) rfl)) hh590 (L := #[.val (.long i0), .second, .val (.long i1), .second, .val (.long i2), .second, .val (.long i3), .second, .val (.long i4), .second, .val (.long i5), .second, .val (.ref a330), .val (.ref a360), .val (.ref a401), .val (.ref a453), .val (.ref a516), .val (.ref a535), .val (.ref a559), .val (.ref b559)]) (hb hby at_501) (by rw [hml]; rfl) [.ref b559, .ref a330, .ref a360, .int (2 : Int32), .int (1 : Int32)] [] rfl rfl pd_7 rfl 0 (by show 2 * 0 + _ ≤ _; exact Nat.le_of_eq rfl) (by decide) (by decide) (by decide) (by decide)
  obtain ⟨rfl, N591, hh591⟩ := hQ591
  have M591 := Fr.app M590 N591
  refine Go.via st591 ?_
  show Go p e below _ (T591.setTop (mkF m 504 #[.val (.long i0), .second, .val (.long i1), .second, .val (.long i2), .second, .val (.long i3), .second, .val (.long i4), .second, .val (.long i5), .second, .val (.ref a330), .val (.ref a360), .val (.ref a401), .val (.ref a453), .val (.ref a516), .val (.ref a535), .val (.ref a559), .val (.ref b559)] [.int (1 : Int32)]))
  refine s_ifN X591 hx (hb hby at_504) (by decide) 507 rfl ?_
  refine s_aload X591 hx (hb hby at_507) rfl rfl 509 rfl ?_
  refine s_aload X591 hx (hb hby at_509) rfl rfl 511 rfl ?_
  refine s_aload X591 hx (hb hby at_511) rfl rfl 513 rfl ?_
  refine s_iconst X591 hx (hb hby at_513) (2 : Int32) rfl 514 rfl ?_
  refine s_iconst X591 hx (hb hby at_514) (2 : Int32) rfl 515 rfl ?_
  obtain ⟨v592, T592, L592, X592, hQ592, st592⟩ := callStat X591 hx hZ hown (wd hw 37 _ rfl) (wd hw 38 _ rfl) (wd hw 3 _ rfl) (wd hw 39 _ rfl) (by decide) (rm_en22 l Z a0 hw [] b559 a330 a360 c559 c330 c360 d559_0 d559_1 d559_2 d559_3 d559_4 d559_5 d559_6 d559_7 d559_8 z333 z336 z339 z342 z345 z348 z351 z354 z357 z365 z369 z373 z377 z381 z385 z389 z393 z397 T559.heap n0 Z582 A559 F574 F575 (Db.eq B559_8 (Lb.l2d (Lb.add (Lb.add (Lb.mul B351 B373 (by decide)) (Lb.mul B354 B385 (by decide)) (by decide)) (Lb.mul B357 B397 (by decide)) (by decide)) (by decide)) rfl)) hh591 (L := #[.val (.long i0), .second, .val (.long i1), .second, .val (.long i2), .second, .val (.long i3), .second, .val (.long i4), .second, .val (.long i5), .second, .val (.ref a330), .val (.ref a360), .val (.ref a401), .val (.ref a453), .val (.ref a516), .val (.ref a535), .val (.ref a559), .val (.ref b559)]) (hb hby at_515) (by rw [hml]; rfl) [.ref b559, .ref a330, .ref a360, .int (2 : Int32), .int (2 : Int32)] [] rfl rfl pd_7 rfl 0 (by show 2 * 0 + _ ≤ _; exact Nat.le_of_eq rfl) (by decide) (by decide) (by decide) (by decide)
  obtain ⟨rfl, N592, hh592⟩ := hQ592
  have M592 := Fr.app M591 N592
  refine Go.via st592 ?_
  show Go p e below _ (T592.setTop (mkF m 518 #[.val (.long i0), .second, .val (.long i1), .second, .val (.long i2), .second, .val (.long i3), .second, .val (.long i4), .second, .val (.long i5), .second, .val (.ref a330), .val (.ref a360), .val (.ref a401), .val (.ref a453), .val (.ref a516), .val (.ref a535), .val (.ref a559), .val (.ref b559)] [.int (1 : Int32)]))
  refine s_ifN X592 hx (hb hby at_518) (by decide) 521 rfl ?_
  refine s_iconst X592 hx (hb hby at_521) (1 : Int32) rfl 522 rfl ?_
  refine s_goto X592 hx (hb hby at_522) 526 (by decide) (by decide) ?_
  exact retZ X592 hx hlk hret (hb hby at_526) (by decide) hh592 ⟨rfl, M592⟩ (by decide) (by decide)
set_option maxRecDepth 65536 in
set_option maxHeartbeats 40000000 in
theorem comes_1 {Post : Tables → Env → Array Value → State → Outcome → State → Prop} (hpost : ∀ tb e args s v u, (limb_1_1.after args s (.returned v) u = true ∧ limb_1_2.after args s (.returned v) u = true ∧ True) → FrameEnd s (.returned v) u (Jvm.fieldLocs frame_1_writes args s ++ Jvm.arrayLocs frame_1_arrays args s ++ Jvm.staticLocs frame_1_statics s) 32 192 → Post tb e args s (.returned v) u) :
    ArmFor flags0 classFile x code maxLocals ret World_1 tables_1 room_1 Calls_1 rest_1 Pre_1 Post := by
  intro l hfl _ _ p e ha hc hk s m args below hf hA hF happ hP
  obtain ⟨hcalls, hrest, hpre⟩ := hP
  obtain ⟨-, -, -, hnamed, -, -, -, hat⟩ := (Spec.applies_iff hf).mp happ
  obtain ⟨hg, hn⟩ := and_e (Cond.before_iff.mp (show (Jvm.Cond.and given_1 narrow_1).before args s = true from hpre))
  obtain ⟨hg0, hg1⟩ := and_e hg
  obtain ⟨w0, w1, w2, w3, w4, w5, rfl⟩ : ∃ w0 w1 w2 w3 w4 w5 : Value, args = #[w0, w1, w2, w3, w4, w5] := by
    have hs : args.size = 6 := by simpa [Cond.value, given_1] using hg0
    obtain ⟨L⟩ := args
    match L, hs with
    | [w0, w1, w2, w3, w4, w5], _ => exact ⟨w0, w1, w2, w3, w4, w5, rfl⟩
  have hw := fun d (hd : d ∈ tables_1) => atoms_spec (ws := Jvm.Cond.code x code maxLocals ret :: tables_1) hat d (List.mem_cons_of_mem _ hd)
  obtain ⟨ga0, hg2⟩ := and_e hg1
  obtain ⟨ga1, hg3⟩ := and_e hg2
  obtain ⟨ga2, hg4⟩ := and_e hg3
  obtain ⟨ga3, hg5⟩ := and_e hg4
  obtain ⟨ga4, hg6⟩ := and_e hg5
  have ga5 := hg6
  obtain ⟨i0, ei0⟩ := isL_v ga0
  obtain rfl : w0 = .long i0 := Option.some.inj ei0
  obtain ⟨i1, ei1⟩ := isL_v ga1
  obtain rfl : w1 = .long i1 := Option.some.inj ei1
  obtain ⟨i2, ei2⟩ := isL_v ga2
  obtain rfl : w2 = .long i2 := Option.some.inj ei2
  obtain ⟨i3, ei3⟩ := isL_v ga3
  obtain rfl : w3 = .long i3 := Option.some.inj ei3
  obtain ⟨i4, ei4⟩ := isL_v ga4
  obtain rfl : w4 = .long i4 := Option.some.inj ei4
  obtain ⟨i5, ei5⟩ := isL_v ga5
  obtain rfl : w5 = .long i5 := Option.some.inj ei5
  obtain ⟨n, o, h1, h2, h3, _, L, rfl, ⟨rfl, N⟩, hq⟩ := rm_law l s _ hw tables_1 i0 i1 i2 i3 i4 i5 s.heap s.heap.size (Nat.le_refl _) p e ha hc hk s m _ below hf ((Spec.applies_iff_loose hf).mp happ).1 ⟨rfl, State.Warmed39.refl s, rfl⟩ trivial
  refine ⟨n, _, h1, h2, h3, hpost _ _ _ _ _ _ ⟨Cond.after_iff.mpr rfl, Cond.after_iff.mpr (eq_i res_at (Term.int_eval (1)) rfl), trivial⟩ ⟨hq.1, hq.2.1, (hq.2.2.sift fun y hy => Or.inr (N y hy)).mono (by decide) (by decide)⟩⟩
theorem main_1_1 : Claimed_1_1 := comes_1 fun _ _ _ _ _ _ h hF => ⟨h.1, hF⟩
theorem main_1_2 : Claimed_1_2 := comes_1 fun _ _ _ _ _ _ h hF => ⟨h.2.1, hF⟩
end Jvm.Pilot.@@N@@
namespace Jvm.Pilot.@@N@@
open Jvm Jvm.ClassFile Sem Op Lib Jvm.Free Jvm.Stand Jvm.Pilot.@@N@@.Jvm.D
/-! MADE BY PROGRAM (witnessworld.py) out of the Statement's table words and the real class files: 13 classes; the members and pool entries that the words name. The judged class is class 1, her method 3. -/
namespace start1
open Jvm.ClassFile
def u (s : String) : CpInfo := .utf8 (stringToUtf16 s)
/-- a pool by its gaps: so many unusable entries, then the entry; so many at the end -/
def gap : Nat → List CpInfo → List CpInfo
  | 0, r => r
  | n + 1, r => .unusable :: gap n r
def poolList (es : List (Nat × CpInfo)) (last : Nat) : List CpInfo := es.foldr (fun e r => gap e.1 (e.2 :: r)) (gap last [])
def pool (es : List (Nat × CpInfo)) (last : Nat) : Array CpInfo := ⟨poolList es last⟩
def fileOf (pool : Array CpInfo) (this : Nat) (attrs : Array Attribute := #[]) (ms : Array MethodInfo := #[]) (fl : Nat := 33) (sup : Nat := 0) (ifs : Array Nat := #[]) (fds : Array FieldInfo := #[]) : ClassFile where
  minorVersion := 0
  majorVersion := 65
  constantPool := pool
  accessFlags := fl
  thisClass := this
  superClass := sup
  interfaces := ifs
  fields := fds
  methods := ms
  attributes := attrs
def plain (name : String) (sup : Option ClassId) : Class where
  name := name
  kind := .ordinary
  loader := none
  accessFlags := 33
  super := sup
  interfaces := #[]
  cf := none
  fields := #[]
  methods := #[]
  instanceTypes := #[]
  staticTypes := #[]
  resolved := #[]
  callSites := []
  init := .initialized
  statics := none
  mirror := none

def pool0 : Array CpInfo := pool [(5, u "<init>"), (0, u "()V"), (1, .class_ 10), (1, u "java/lang/Object")] 113

def k0c0 : Code := { maxStack := 0, maxLocals := 1, code := object_method_1_code, exceptionTable := #[], attributes := #[] }
def k0m0 : Method := { name := "<init>", desc := "()V", sig := { parameters := [], returnType := none }, accessFlags := 1, code := some k0c0 }
/-- java/lang/Object -/
def k0 : Class := { plain "java/lang/Object" none with
  accessFlags := 33
  interfaces := #[]
  cf := some (fileOf pool0 8 #[] #[{ accessFlags := 1, nameIndex := 5, descriptorIndex := 6, attributes := #[] }] 33 0 #[] #[])
  fields := #[]
  methods := #[k0m0]
  instanceTypes := #[]
  staticTypes := #[]
  resolved := Array.replicate 124 none
  statics := none }

def pool1 : Array CpInfo := pool [(2, .class_ 4), (1, u "java/lang/Object"), (0, u "<init>"), (0, u "()V"), (0, .long 2097151), (1, .long 1048576), (1, .methodref 12 13), (0, .class_ 14), (0, .nameAndType 15 16), (0, u "com/example/twelvefold/twelvefold/FrameTransformMatrixTimesPinLaw"), (0, u "part"), (0, u "(JI)J"), (0, .class_ 18), (0, u "com/example/twelvefold/twelvefold/FrameTransformMatrix"), (0, .methodref 17 20), (0, .nameAndType 5 21), (0, u "([D)V"), (0, .methodref 17 23), (0, .nameAndType 24 25), (0, u "times"), (0, u "(Lcom/example/twelvefold/twelvefold/FrameTransformMatrix;)Lcom/example/twelvefold/twelvefold/FrameTransformMatrix;"), (0, .fieldref 17 27), (0, .nameAndType 28 29), (0, u "elements"), (0, u "[D"), (0, .methodref 12 31), (0, .nameAndType 32 33), (0, u "entry"), (0, u "([D[J[JII)Z"), (3, u "law"), (0, u "(JJJJJJ)Z")] 5

def k1m0 : Method := { name := "<init>", desc := "()V", sig := { parameters := [], returnType := none }, accessFlags := 1, code := none }
def k1c1 : Code := { maxStack := 4, maxLocals := 3, code := method_2_code, exceptionTable := #[], attributes := #[] }
def k1m1 : Method := { name := "part", desc := "(JI)J", sig := { parameters := [.long, .int], returnType := some .long }, accessFlags := 10, code := some k1c1 }
def k1c2 : Code := { maxStack := 7, maxLocals := 7, code := method_3_code, exceptionTable := #[], attributes := #[] }
def k1m2 : Method := { name := "entry", desc := "([D[J[JII)Z", sig := { parameters := [(.array .double), (.array .long), (.array .long), .int, .int], returnType := some .boolean }, accessFlags := 10, code := some k1c2 }
def k1c3 : Code := { maxStack := 6, maxLocals := 20, code := code, exceptionTable := #[], attributes := #[] }
def k1m3 : Method := { name := "law", desc := "(JJJJJJ)Z", sig := { parameters := [.long, .long, .long, .long, .long, .long], returnType := some .boolean }, accessFlags := 9, code := some k1c3 }
/-- com/example/twelvefold/twelvefold/FrameTransformMatrixTimesPinLaw -/
def k1 : Class := { plain "com/example/twelvefold/twelvefold/FrameTransformMatrixTimesPinLaw" (some 0) with
  accessFlags := 49
  interfaces := #[]
  cf := some (fileOf pool1 12 #[] #[{ accessFlags := 1, nameIndex := 5, descriptorIndex := 6, attributes := #[] }, { accessFlags := 10, nameIndex := 15, descriptorIndex := 16, attributes := #[] }, { accessFlags := 10, nameIndex := 32, descriptorIndex := 33, attributes := #[] }, { accessFlags := 9, nameIndex := 37, descriptorIndex := 38, attributes := #[] }] 49 2 #[] #[])
  fields := #[]
  methods := #[k1m0, k1m1, k1m2, k1m3]
  instanceTypes := #[]
  staticTypes := #[]
  resolved := Array.replicate 44 none
  statics := none }

def pool2 : Array CpInfo := pool [(1, .methodref 2 3), (0, .class_ 4), (0, .nameAndType 5 6), (0, u "java/lang/Object"), (0, u "<init>"), (0, u "()V"), (0, .fieldref 8 9), (0, .class_ 10), (0, .nameAndType 11 12), (0, u "com/example/twelvefold/twelvefold/FrameTransformMatrix"), (0, u "elements"), (0, u "[D"), (7, u "([D)Lcom/example/twelvefold/twelvefold/FrameTransformMatrix;"), (7, .methodref 8 29), (0, .nameAndType 5 30), (0, u "([D)V"), (15, .methodref 8 47), (0, .nameAndType 48 20), (0, u "timesTransposed"), (0, .methodref 8 50), (0, .nameAndType 51 52), (0, u "at"), (0, u "(II)I"), (0, .methodref 8 54), (0, .nameAndType 55 56), (0, u "rowDot"), (0, u "([DI[DI)D"), (10, u "TOLERANCE"), (0, u "D"), (10, u "times"), (0, u "(Lcom/example/twelvefold/twelvefold/FrameTransformMatrix;)Lcom/example/twelvefold/twelvefold/FrameTransformMatrix;")] 20

def k2c0 : Code := { maxStack := 2, maxLocals := 2, code := prog_6_method_1_code, exceptionTable := #[], attributes := #[] }
def k2m0 : Method := { name := "<init>", desc := "([D)V", sig := { parameters := [(.array .double)], returnType := none }, accessFlags := 0, code := some k2c0 }
def k2c1 : Code := { maxStack := 2, maxLocals := 2, code := prog_6_method_2_code, exceptionTable := #[], attributes := #[] }
def k2m1 : Method := { name := "at", desc := "(II)I", sig := { parameters := [.int, .int], returnType := some .int }, accessFlags := 8, code := some k2c1 }
def k2c2 : Code := { maxStack := 6, maxLocals := 3, code := prog_6_method_9_code, exceptionTable := #[], attributes := #[] }
def k2m2 : Method := { name := "times", desc := "(Lcom/example/twelvefold/twelvefold/FrameTransformMatrix;)Lcom/example/twelvefold/twelvefold/FrameTransformMatrix;", sig := { parameters := [(.object "com/example/twelvefold/twelvefold/FrameTransformMatrix")], returnType := some (.object "com/example/twelvefold/twelvefold/FrameTransformMatrix") }, accessFlags := 0, code := some k2c2 }
def k2c3 : Code := { maxStack := 6, maxLocals := 5, code := prog_6_method_11_code, exceptionTable := #[], attributes := #[] }
def k2m3 : Method := { name := "timesTransposed", desc := "([D)Lcom/example/twelvefold/twelvefold/FrameTransformMatrix;", sig := { parameters := [(.array .double)], returnType := some (.object "com/example/twelvefold/twelvefold/FrameTransformMatrix") }, accessFlags := 2, code := some k2c3 }
def k2c4 : Code := { maxStack := 7, maxLocals := 4, code := prog_6_method_13_code, exceptionTable := #[], attributes := #[] }
def k2m4 : Method := { name := "rowDot", desc := "([DI[DI)D", sig := { parameters := [(.array .double), .int, (.array .double), .int], returnType := some .double }, accessFlags := 10, code := some k2c4 }
/-- com/example/twelvefold/twelvefold/FrameTransformMatrix -/
def k2 : Class := { plain "com/example/twelvefold/twelvefold/FrameTransformMatrix" (some 0) with
  accessFlags := 49
  interfaces := #[]
  cf := some (fileOf pool2 8 #[] #[{ accessFlags := 0, nameIndex := 5, descriptorIndex := 30, attributes := #[] }, { accessFlags := 8, nameIndex := 51, descriptorIndex := 52, attributes := #[] }, { accessFlags := 0, nameIndex := 79, descriptorIndex := 80, attributes := #[] }, { accessFlags := 2, nameIndex := 48, descriptorIndex := 20, attributes := #[] }, { accessFlags := 10, nameIndex := 55, descriptorIndex := 56, attributes := #[] }] 49 2 #[] #[{ accessFlags := 26, nameIndex := 67, descriptorIndex := 68, attributes := #[] }, { accessFlags := 16, nameIndex := 11, descriptorIndex := 12, attributes := #[] }])
  fields := #[{ name := "TOLERANCE", type := .double, accessFlags := 26, slot := 0, constantValue := 0 }, { name := "elements", type := (.array .double), accessFlags := 16, slot := 0, constantValue := 0 }]
  methods := #[k2m0, k2m1, k2m2, k2m3, k2m4]
  instanceTypes := #[(.array .double)]
  staticTypes := #[.double]
  resolved := Array.replicate 101 none
  statics := none }

def pool3 : Array CpInfo := pool [(1, u "java/lang/Cloneable"), (0, .class_ 1), (0, u "java/lang/Object"), (0, .class_ 3)] 3

/-- java/lang/Cloneable -/
def k3 : Class := { plain "java/lang/Cloneable" (some 0) with
  accessFlags := 1537
  interfaces := #[]
  cf := some (fileOf pool3 2 #[] #[] 1537 4 #[] #[])
  fields := #[]
  methods := #[]
  instanceTypes := #[]
  staticTypes := #[]
  resolved := Array.replicate 8 none
  statics := none }

def pool4 : Array CpInfo := pool [(1, u "java/io/Serializable"), (0, .class_ 1), (0, u "java/lang/Object"), (0, .class_ 3)] 3

/-- java/io/Serializable -/
def k4 : Class := { plain "java/io/Serializable" (some 0) with
  accessFlags := 1537
  interfaces := #[]
  cf := some (fileOf pool4 2 #[] #[] 1537 4 #[] #[])
  fields := #[]
  methods := #[]
  instanceTypes := #[]
  staticTypes := #[]
  resolved := Array.replicate 8 none
  statics := none }

/-- the primitive byte -/
def k5 : Class := { plain "byte" none with kind := .primitive 'B', accessFlags := 0x411 }
/-- [B -/
def k6 : Class := { plain "[B" (some 0) with kind := .array 5 .byte, interfaces := #[3, 4], accessFlags := 1041 }

/-- the primitive double -/
def k7 : Class := { plain "double" none with kind := .primitive 'D', accessFlags := 0x411 }
/-- [D -/
def k8 : Class := { plain "[D" (some 0) with kind := .array 7 .double, interfaces := #[3, 4], accessFlags := 1041 }

/-- the primitive int -/
def k9 : Class := { plain "int" none with kind := .primitive 'I', accessFlags := 0x411 }
/-- [I -/
def k10 : Class := { plain "[I" (some 0) with kind := .array 9 .int, interfaces := #[3, 4], accessFlags := 1041 }

/-- the primitive long -/
def k11 : Class := { plain "long" none with kind := .primitive 'J', accessFlags := 0x411 }
/-- [J -/
def k12 : Class := { plain "[J" (some 0) with kind := .array 11 .long, interfaces := #[3, 4], accessFlags := 1041 }

def heap : Heap := #[]
def classes : Array Class := #[k0, k1, k2, k3, k4, k5, k6, k7, k8, k9, k10, k11, k12]
def interned : List (Array UInt16 × Addr) := []
def slotsUsed : Nat := 0
def theMethod : MethodId := ⟨1, 3⟩
def args0 : Array Value := #[.long 3, .long 2, .long 5, .long 1, .long 7, .long 4]
def aboutOver (below : List Frame) : State where
  vm := { classes := classes, interned := interned.toArray }
  heap := heap
  slotsUsed := slotsUsed
  threads := #[{ frames := .invoking theMethod args0 :: below }]
def below0 : List Frame := [.native { method := ⟨0, 0⟩, args := #[] }]
def about1 : State := aboutOver below0
def p0 : Program := .bare "" "" ""
def e0 : Env := launch0.env 0 0 0
theorem w_frames : about1.frames = Frame.invoking theMethod args0 :: below0 := rfl
set_option maxRecDepth 65536 in
theorem w_args : argsFit about1.vm theMethod args0 = true := by decide +kernel
set_option maxRecDepth 65536 in
theorem w_heap : heapFits about1 = true := by decide +kernel
set_option maxRecDepth 65536 in
theorem w_runnable : about1.curStatus? = some .runnable := by decide +kernel
set_option maxRecDepth 65536 in
theorem w_alone : about1.alone = true := by decide +kernel
set_option maxRecDepth 65536 in
theorem w_named : about1.methodNamed? x = some theMethod := by decide +kernel
set_option maxRecDepth 65536 in
theorem w_hears : about1.hears theMethod below0 = true := by decide +kernel
set_option maxRecDepth 65536 in
theorem w_ripe : about1.ripe theMethod args0 below0 = true := by decide +kernel
theorem w_running : about1.status = .running := rfl
set_option maxRecDepth 65536 in
theorem w_room : about1.hasRoom e0.platform room_1 = true :=
  launch0.hasRoom_least _ room_1 (by decide +kernel) (by decide +kernel) (by decide +kernel) (by decide +kernel) (by decide +kernel) (by decide +kernel)
theorem allAtoms_all (ts : List Jvm.Cond) (a : Array Jvm.Value) (st : Jvm.State) : (allAtoms ts).before a st = ts.all (fun c => c.before a st) := by
  induction ts with
  | nil => rfl
  | cons c t ih =>
    show (Jvm.Cond.and c (allAtoms t)).before a st = _
    rw [Jvm.Cond.before_and, ih, List.all_cons]
def words1 : List Jvm.Cond := Jvm.Cond.code x code maxLocals ret :: tables_1
/-- a 'code' word, met by the world's own term for the bytes: nothing is compared byte by byte -/
theorem code_word {y : MethodName} {bytes : ByteArray} {mx : Nat} {rt : Option FieldType} {a : Array Value} {s : State} {m : MethodId} {meth : Method} {c : Code} (h1 : s.methodNamed? y = some m) (h2 : s.vm.method? m = some meth) (h3 : meth.code = some c) (h4 : c.code = bytes)
    (h5 : (c.maxLocals == mx && c.exceptionTable.isEmpty && decide (c.maxStack ≤ mostOperands) && decide (meth.sig.returnType = rt) && !meth.locks && decide (parseMethodDescriptor y.desc = some meth.sig)) = true) : (Jvm.Cond.code y bytes mx rt).before a s = true := by
  simp only [Bool.and_eq_true, beq_iff_eq, Bool.not_eq_true', decide_eq_true_eq] at h5
  obtain ⟨⟨⟨⟨⟨g1, g2⟩, g3⟩, g4⟩, g5⟩, g6⟩ := h5
  simp [Cond.before, Cond.holds, Cond.value, h1, h2, h3, h4, g1, g2, g3, g4, g5, g6]
def isCode : Jvm.Cond → Bool
  | .code _ _ _ _ => true
  | _ => false
theorem all_split {L : List Jvm.Cond} {P : Jvm.Cond → Bool} (h1 : L.all (fun c => isCode c || P c) = true) (h2 : ∀ c ∈ L.filter isCode, P c = true) : L.all P = true := by
  refine List.all_eq_true.mpr fun c hc => ?_
  have h := List.all_eq_true.mp h1 c hc
  rcases Bool.eq_false_or_eq_true (isCode c) with hi | hi
  · exact h2 c (List.mem_filter.mpr ⟨hc, hi⟩)
  · simpa [hi] using h
set_option maxRecDepth 65536 in
theorem w_c0 : (Jvm.Cond.code x code maxLocals ret).before args0 about1 = true := code_word (m := ⟨1, 3⟩) (meth := k1m3) (c := k1c3) (by decide +kernel) rfl rfl rfl (by decide +kernel)
set_option maxRecDepth 65536 in
theorem w_c1 : (Jvm.Cond.code ({ cls := "com/example/twelvefold/twelvefold/FrameTransformMatrixTimesPinLaw", name := "part", desc := "(JI)J" } : Jvm.MethodName) method_2_code (3 : Nat) (Option.some Jvm.ClassFile.FieldType.long)).before args0 about1 = true := code_word (m := ⟨1, 1⟩) (meth := k1m1) (c := k1c1) (by decide +kernel) rfl rfl rfl (by decide +kernel)
set_option maxRecDepth 65536 in
theorem w_c2 : (Jvm.Cond.code ({ cls := "com/example/twelvefold/twelvefold/FrameTransformMatrix", name := "<init>", desc := "([D)V" } : Jvm.MethodName) prog_6_method_1_code (2 : Nat) (Option.none : Option Jvm.ClassFile.FieldType)).before args0 about1 = true := code_word (m := ⟨2, 0⟩) (meth := k2m0) (c := k2c0) (by decide +kernel) rfl rfl rfl (by decide +kernel)
set_option maxRecDepth 65536 in
theorem w_c3 : (Jvm.Cond.code ({ cls := "java/lang/Object", name := "<init>", desc := "()V" } : Jvm.MethodName) object_method_1_code (1 : Nat) (Option.none : Option Jvm.ClassFile.FieldType)).before args0 about1 = true := code_word (m := ⟨0, 0⟩) (meth := k0m0) (c := k0c0) (by decide +kernel) rfl rfl rfl (by decide +kernel)
set_option maxRecDepth 65536 in
theorem w_c4 : (Jvm.Cond.code ({ cls := "com/example/twelvefold/twelvefold/FrameTransformMatrix", name := "times", desc := "(Lcom/example/twelvefold/twelvefold/FrameTransformMatrix;)Lcom/example/twelvefold/twelvefold/FrameTransformMatrix;" } : Jvm.MethodName) prog_6_method_9_code (3 : Nat) (Option.some (Jvm.ClassFile.FieldType.object "com/example/twelvefold/twelvefold/FrameTransformMatrix"))).before args0 about1 = true := code_word (m := ⟨2, 2⟩) (meth := k2m2) (c := k2c2) (by decide +kernel) rfl rfl rfl (by decide +kernel)
set_option maxRecDepth 65536 in
theorem w_c5 : (Jvm.Cond.code ({ cls := "com/example/twelvefold/twelvefold/FrameTransformMatrix", name := "timesTransposed", desc := "([D)Lcom/example/twelvefold/twelvefold/FrameTransformMatrix;" } : Jvm.MethodName) prog_6_method_11_code (5 : Nat) (Option.some (Jvm.ClassFile.FieldType.object "com/example/twelvefold/twelvefold/FrameTransformMatrix"))).before args0 about1 = true := code_word (m := ⟨2, 3⟩) (meth := k2m3) (c := k2c3) (by decide +kernel) rfl rfl rfl (by decide +kernel)
set_option maxRecDepth 65536 in
theorem w_c6 : (Jvm.Cond.code ({ cls := "com/example/twelvefold/twelvefold/FrameTransformMatrix", name := "at", desc := "(II)I" } : Jvm.MethodName) prog_6_method_2_code (2 : Nat) (Option.some Jvm.ClassFile.FieldType.int)).before args0 about1 = true := code_word (m := ⟨2, 1⟩) (meth := k2m1) (c := k2c1) (by decide +kernel) rfl rfl rfl (by decide +kernel)
set_option maxRecDepth 65536 in
theorem w_c7 : (Jvm.Cond.code ({ cls := "com/example/twelvefold/twelvefold/FrameTransformMatrix", name := "rowDot", desc := "([DI[DI)D" } : Jvm.MethodName) prog_6_method_13_code (4 : Nat) (Option.some Jvm.ClassFile.FieldType.double)).before args0 about1 = true := code_word (m := ⟨2, 4⟩) (meth := k2m4) (c := k2c4) (by decide +kernel) rfl rfl rfl (by decide +kernel)
set_option maxRecDepth 65536 in
theorem w_c8 : (Jvm.Cond.code ({ cls := "com/example/twelvefold/twelvefold/FrameTransformMatrixTimesPinLaw", name := "entry", desc := "([D[J[JII)Z" } : Jvm.MethodName) method_3_code (7 : Nat) (Option.some Jvm.ClassFile.FieldType.boolean)).before args0 about1 = true := code_word (m := ⟨1, 2⟩) (meth := k1m2) (c := k1c2) (by decide +kernel) rfl rfl rfl (by decide +kernel)
def codes1 : List Jvm.Cond := [Jvm.Cond.code x code maxLocals ret, Jvm.Cond.code ({ cls := "com/example/twelvefold/twelvefold/FrameTransformMatrixTimesPinLaw", name := "part", desc := "(JI)J" } : Jvm.MethodName) method_2_code (3 : Nat) (Option.some Jvm.ClassFile.FieldType.long), Jvm.Cond.code ({ cls := "com/example/twelvefold/twelvefold/FrameTransformMatrix", name := "<init>", desc := "([D)V" } : Jvm.MethodName) prog_6_method_1_code (2 : Nat) (Option.none : Option Jvm.ClassFile.FieldType), Jvm.Cond.code ({ cls := "java/lang/Object", name := "<init>", desc := "()V" } : Jvm.MethodName) object_method_1_code (1 : Nat) (Option.none : Option Jvm.ClassFile.FieldType), Jvm.Cond.code ({ cls := "com/example/twelvefold/twelvefold/FrameTransformMatrix", name := "times", desc := "(Lcom/example/twelvefold/twelvefold/FrameTransformMatrix;)Lcom/example/twelvefold/twelvefold/FrameTransformMatrix;" } : Jvm.MethodName) prog_6_method_9_code (3 : Nat) (Option.some (Jvm.ClassFile.FieldType.object "com/example/twelvefold/twelvefold/FrameTransformMatrix")), Jvm.Cond.code ({ cls := "com/example/twelvefold/twelvefold/FrameTransformMatrix", name := "timesTransposed", desc := "([D)Lcom/example/twelvefold/twelvefold/FrameTransformMatrix;" } : Jvm.MethodName) prog_6_method_11_code (5 : Nat) (Option.some (Jvm.ClassFile.FieldType.object "com/example/twelvefold/twelvefold/FrameTransformMatrix")), Jvm.Cond.code ({ cls := "com/example/twelvefold/twelvefold/FrameTransformMatrix", name := "at", desc := "(II)I" } : Jvm.MethodName) prog_6_method_2_code (2 : Nat) (Option.some Jvm.ClassFile.FieldType.int), Jvm.Cond.code ({ cls := "com/example/twelvefold/twelvefold/FrameTransformMatrix", name := "rowDot", desc := "([DI[DI)D" } : Jvm.MethodName) prog_6_method_13_code (4 : Nat) (Option.some Jvm.ClassFile.FieldType.double), Jvm.Cond.code ({ cls := "com/example/twelvefold/twelvefold/FrameTransformMatrixTimesPinLaw", name := "entry", desc := "([D[J[JII)Z" } : Jvm.MethodName) method_3_code (7 : Nat) (Option.some Jvm.ClassFile.FieldType.boolean)]
set_option maxRecDepth 65536 in
theorem codes_eq : words1.filter isCode = codes1 := rfl
theorem w_codes : ∀ c ∈ words1.filter isCode, c.before args0 about1 = true := by
  rw [codes_eq]
  intro c hc
  simp only [codes1, List.mem_cons, List.not_mem_nil, or_false] at hc
  rcases hc with rfl | rfl | rfl | rfl | rfl | rfl | rfl | rfl | rfl
  · exact w_c0
  · exact w_c1
  · exact w_c2
  · exact w_c3
  · exact w_c4
  · exact w_c5
  · exact w_c6
  · exact w_c7
  · exact w_c8
set_option maxRecDepth 65536 in
theorem w_t1 : (words1.take 24).all (fun c => isCode c || c.before args0 about1) = true := by decide +kernel
set_option maxRecDepth 65536 in
theorem w_t2 : (words1.drop 24).all (fun c => isCode c || c.before args0 about1) = true := by decide +kernel
theorem w_tables : (allAtoms (Jvm.Cond.code x code maxLocals ret :: tables_1)).before args0 about1 = true := by
  rw [allAtoms_all]
  show words1.all (fun c => c.before args0 about1) = true
  refine all_split ?_ w_codes
  rw [← List.take_append_drop 24 words1, List.all_append, w_t1, w_t2]
  rfl
set_option maxRecDepth 65536 in
theorem w_case : (Jvm.Cond.and given_1 narrow_1).before args0 about1 = true := by decide +kernel
theorem w_applies : (headSpec (Jvm.Cond.code x code maxLocals ret :: tables_1) room_1).applies x e0.platform about1 = true :=
  (Spec.applies_iff w_frames).mpr ⟨w_running, w_runnable, w_alone, w_named, w_hears, w_ripe, w_room, w_tables⟩
theorem atStart : AtStart classFile x code maxLocals ret World_1 tables_1 room_1 Calls_1 rest_1 Pre_1 launch0 p0 e0 about1 theMethod args0 below0 :=
  ⟨lists_1, trivial, launch0.admits_env _ _ _, launch0.least_env, fairChoices_fair.cas, fairChoices_fair.clock, w_frames, w_args, w_heap, w_applies, trivial, trivial, w_case⟩
end start1
theorem witness_1 : WitnessClaimed_1 := ⟨start1.p0, start1.e0, start1.about1, start1.theMethod, start1.args0, start1.below0, start1.atStart⟩
end Jvm.Pilot.@@N@@

import JvmDerived
import JvmDerived.Pilot.@@N@@Statement
import JvmDerived.Pilot.@@N@@Code
set_option linter.unusedVariables false
set_option linter.unusedSimpArgs false
namespace Jvm.RoadKit
open Sem ClassFile Op Lib Jvm.Stand Jvm.Free Jvm.LawKit
section OwnGo
variable {p : Program} {l : Launch} {e : Env} {R : Room} {s : State} {m : MethodId} {args : Array Value} {below : List Frame} {meth : Method} {c : Code} {T : State} {locs : List Loc} {cells slots : Nat} {Z : State} {a0 : Array Value} {h : Heap} {Q : Option Value → Heap → List Loc → Prop} {P : Option Value → State → Prop} {K N : Nat} {by_ : ByteArray} {pc pc' : Nat} {Ls : Array Slot} {rest : List Value}
/-- from S the run comes to its end, and P says what it leaves -/
def Go (p : Program) (e : Env) (below : List Frame) (P : Option Value → State → Prop) (S : State) : Prop :=
  ∃ U v, Steps p.tables e below S U ∧ U.status = .running ∧ Ended U below (.returned v) ∧ P v U
/-- an end within a frame: the narrow one, and the wide one (String constants may have been interned) -/
def Nr (s : State) (Q : Option Value → Heap → List Loc → Prop) (K N : Nat) (v : Option Value) (U : State) : Prop := ∃ L, Q v U.heap L ∧ FrameEnd s (.returned v) U L K N
def Wd (s : State) (Q : Option Value → Heap → List Loc → Prop) (K N : Nat) (v : Option Value) (U : State) : Prop := ∃ L, Q v U.heap L ∧ ReturnedEndW s (.returned v) U L K N
theorem Go.st {A B : State} (f : ∀ t, Steps p.tables e below A t → Steps p.tables e below B t) (k : Go p e below P A) : Go p e below P B := by
  obtain ⟨U, v, h1, h2⟩ := k
  exact ⟨U, v, f _ h1, h2⟩
theorem Go.via {A B : State} (f : Steps p.tables e below B A) (k : Go p e below P A) : Go p e below P B := by
  obtain ⟨U, v, h1, h2⟩ := k
  exact ⟨U, v, f.trans h1, h2⟩
/-- the contract of a body -/
abbrev Con (l : Launch) (Z : State) (y : MethodName) (bytes : ByteArray) (maxL : Nat) (ret : Option FieldType) (ws : List Jvm.Cond) (rm : Room) (as : Array Value) (h : Heap) (Q : Option Value → Heap → List Loc → Prop) : Prop :=
  MetFree l y (head1 (Jvm.Cond.code y bytes maxL ret :: ws) rm) (fun a U => a = as ∧ Z.Warmed39 U.vm ∧ U.heap = h) (fun _ _ _ _ _ => True) (fun _ U o U' => ∃ v L, o = .returned v ∧ Q v U'.heap L ∧ FrameEnd U o U' L rm.cells rm.slots)
theorem Con.of {y : MethodName} {bytes : ByteArray} {maxL : Nat} {ret : Option FieldType} {ws : List Jvm.Cond} {rm : Room} {as : Array Value} (hpn : plainFor y = true)
    (body : ∀ (p : Program) (e : Env) (s : State) (m : MethodId) (below : List Frame) (meth : Method) (c : Code) (s₁ : State), p.tables.exec = Jvm.exec → c.code = bytes → c.maxLocals = maxL → s.vm.findClass y.cls = some m.cls → meth.name = y.name → meth.sig.returnType = ret → meth.locks = false → Z.Warmed39 s.vm →
      Stand p l e rm s m as below meth c s₁ [] 0 0 → s₁.heap = h → Go p e below (Nr s Q rm.cells rm.slots) (s₁.setTop (entryFrame m as maxL))) : Con l Z y bytes maxL ret ws rm as h Q := by
  refine MetFree.of_bodySF hpn hisR ?_
  intro p e s m args below meth c s₁ Bd hml0 hP hK
  obtain ⟨rfl, hZ, hh⟩ := hP
  have hown := findClass_of_methodNamed Bd.named
  have hnm := (name_of_methodNamed Bd.named Bd.method).1
  have X0 := Stand.of_body Bd
  have e0 : s₁.heap = h := by rw [← hh, Bd.state]; rfl
  obtain ⟨U, v, h1, h2, h3, L, h4, h5⟩ := body p e s m below meth c s₁ Bd.exec Bd.bytes hml0 hown hnm Bd.returns Bd.notSynchronized hZ X0 e0
  exact ⟨U, _, h1, h2, h3, v, L, rfl, h4, h5⟩
theorem Go.cast {g g' : JFrame} (q : g = g') (k : Go p e below P (T.setTop g')) : Go p e below P (T.setTop g) := q ▸ k
/-- a body that only reads numbers: what it returns, and nothing moved -/
def PQ (w : Option Value) (h0 : Heap) (v : Option Value) (h : Heap) (L : List Loc) : Prop := v = w ∧ L = [] ∧ h = h0
theorem Go.end_ {w : Option Value} {A : State} (X : Stand p l e R s m args below meth c T locs cells slots) (hlk : meth.locks = false) (hr0 : meth.sig.returnType = none → w = none) (f : ∀ fs, (∀ (f : JFrame) (acts : List Action), f.method = m → f.locked = none → f.entered = [] → (doReturn e (T.setTop f) acts w).1 = T.setFrames fs) → Steps p.tables e below A (T.setFrames fs))
    (hc : cells ≤ K) (hn : slots ≤ N) (q : Q w T.heap locs) : Go p e below (Nr s Q K N) A := by
  obtain ⟨fs, hr, hrun, hended, hW, hsame⟩ := X.leave (v := w) hr0 hlk
  exact ⟨_, _, f fs hr, hrun, hended, locs, q, ⟨_, rfl⟩, hW, hsame.mono hc hn⟩
theorem Go.ret0 (X : Stand p l e R s m args below meth c T locs cells slots) (hx : p.tables.exec = Jvm.exec) (hby : c.code = by_) (hlk : meth.locks = false) (hret : meth.sig.returnType = none) (hd : decode by_ pc = .ok (.return_, 1)) (hc : cells ≤ K) (hn : slots ≤ N) (q : Q none T.heap locs) : Go p e below (Nr s Q K N) (T.setTop (mkF m pc Ls [])) :=
  Go.end_ X hlk (fun _ => rfl) (fun fs hr => X.returnOut hx hret (hb hby hd) hr) hc hn q
theorem Go.retV {w : Value} {t : FieldType} {i : Instr} (X : Stand p l e R s m args below meth c T locs cells slots) (hx : p.tables.exec = Jvm.exec) (hby : c.code = by_) (hlk : meth.locks = false) (hret : meth.sig.returnType = some t) (hnw : narrow t w = w)
    (hi : (i = .ireturn ∧ (t = .int ∨ t = .boolean ∨ t = .byte ∨ t = .char ∨ t = .short) ∧ ∃ z, w = .int z) ∨ (i = .lreturn ∧ t = .long ∧ ∃ z, w = .long z) ∨ (i = .dreturn ∧ t = .double ∧ ∃ z, w = .double z) ∨ (i = .freturn ∧ t = .float ∧ ∃ z, w = .float z) ∨ (i = .areturn ∧ t.isReference = true ∧ w.isRef = true))
    (hd : decode by_ pc = .ok (i, 1)) (hc : cells ≤ K) (hn : slots ≤ N) (q : Q (some w) T.heap locs) : Go p e below (Nr s Q K N) (T.setTop (mkF m pc Ls (w :: rest))) :=
  Go.end_ X hlk (fun h => by rw [hret] at h; cases h) (fun fs hr => retOut X hx hret hnw hi (hb hby hd) hr) hc hn q
theorem Go.retI {z : Int32} (X : Stand p l e R s m args below meth c T locs cells slots) (hx : p.tables.exec = Jvm.exec) (hby : c.code = by_) (hlk : meth.locks = false) (hret : meth.sig.returnType = some .int) (hd : decode by_ pc = .ok (.ireturn, 1)) (hc : cells ≤ K) (hn : slots ≤ N) (q : Q (some (.int z)) T.heap locs) : Go p e below (Nr s Q K N) (T.setTop (mkF m pc Ls (.int z :: rest))) :=
  Go.retV X hx hby hlk hret rfl (Or.inl ⟨rfl, Or.inl rfl, z, rfl⟩) hd hc hn q
theorem Go.retZ {z : Int32} {t : FieldType} (X : Stand p l e R s m args below meth c T locs cells slots) (hx : p.tables.exec = Jvm.exec) (hby : c.code = by_) (hlk : meth.locks = false) (hret : meth.sig.returnType = some t) (ht : t = .boolean ∨ t = .byte ∨ t = .char ∨ t = .short) (hd : decode by_ pc = .ok (.ireturn, 1)) (hc : cells ≤ K) (hn : slots ≤ N) (q : Q (some (.int (nar t z))) T.heap locs) : Go p e below (Nr s Q K N) (T.setTop (mkF m pc Ls (.int z :: rest))) :=
  Go.end_ X hlk (fun h => by rw [hret] at h; cases h) (fun fs hr => retN X hx hret ht (hb hby hd) hr) hc hn q
theorem Go.retJ {z : Int64} (X : Stand p l e R s m args below meth c T locs cells slots) (hx : p.tables.exec = Jvm.exec) (hby : c.code = by_) (hlk : meth.locks = false) (hret : meth.sig.returnType = some .long) (hd : decode by_ pc = .ok (.lreturn, 1)) (hc : cells ≤ K) (hn : slots ≤ N) (q : Q (some (.long z)) T.heap locs) : Go p e below (Nr s Q K N) (T.setTop (mkF m pc Ls (.long z :: rest))) :=
  Go.retV X hx hby hlk hret rfl (Or.inr (Or.inl ⟨rfl, rfl, z, rfl⟩)) hd hc hn q
theorem Go.retA {w : Value} {t : FieldType} (X : Stand p l e R s m args below meth c T locs cells slots) (hx : p.tables.exec = Jvm.exec) (hby : c.code = by_) (hlk : meth.locks = false) (hret : meth.sig.returnType = some t) (hnw : narrow t w = w) (ht : t.isReference = true) (hw : w.isRef = true) (hd : decode by_ pc = .ok (.areturn, 1)) (hc : cells ≤ K) (hn : slots ≤ N) (q : Q (some w) T.heap locs) : Go p e below (Nr s Q K N) (T.setTop (mkF m pc Ls (w :: rest))) :=
  Go.retV X hx hby hlk hret hnw (Or.inr (Or.inr (Or.inr (Or.inr ⟨rfl, ht, hw⟩)))) hd hc hn q
def icP : ClassFile.Cond → Int32 → Int32 → Prop
  | .eq, x, y => x = y
  | .ne, x, y => x ≠ y
  | .lt, x, y => x < y
  | .ge, x, y => y ≤ x
  | .gt, x, y => y < x
  | .le, x, y => x ≤ y
theorem icP_iff (cd : ClassFile.Cond) (x y : Int32) : if_icmp.holds cd x y = true ↔ icP cd x y := by cases cd <;> simp [if_icmp.holds, icP]
theorem icP_not {cd : ClassFile.Cond} {x y : Int32} (q : ¬ icP cd x y) : if_icmp.holds cd x y = false := by
  cases hq : if_icmp.holds cd x y
  · rfl
  · exact absurd ((icP_iff cd x y).mp hq) q

theorem Go.iadd {x y : Int32} (X : Stand p l e R s m args below meth c T locs cells slots) (hx : p.tables.exec = Jvm.exec) (hby : c.code = by_) (hd : decode by_ pc = .ok (.iadd, 1)) (hp : pc + 1 = pc') (k : Go p e below P (T.setTop (mkF m pc' Ls (.int (x + y) :: rest)))) : Go p e below P (T.setTop (mkF m pc Ls (.int y :: .int x :: rest))) := by
  subst hp; exact Go.st (fun t k => XS.iadd X.here hx rfl (hb hby hd) rfl k) k
theorem Go.isub {x y : Int32} (X : Stand p l e R s m args below meth c T locs cells slots) (hx : p.tables.exec = Jvm.exec) (hby : c.code = by_) (hd : decode by_ pc = .ok (.isub, 1)) (hp : pc + 1 = pc') (k : Go p e below P (T.setTop (mkF m pc' Ls (.int (x - y) :: rest)))) : Go p e below P (T.setTop (mkF m pc Ls (.int y :: .int x :: rest))) := by
  subst hp; exact Go.st (fun t k => XS.isub X.here hx rfl (hb hby hd) rfl k) k
theorem Go.imul {x y : Int32} (X : Stand p l e R s m args below meth c T locs cells slots) (hx : p.tables.exec = Jvm.exec) (hby : c.code = by_) (hd : decode by_ pc = .ok (.imul, 1)) (hp : pc + 1 = pc') (k : Go p e below P (T.setTop (mkF m pc' Ls (.int (x * y) :: rest)))) : Go p e below P (T.setTop (mkF m pc Ls (.int y :: .int x :: rest))) := by
  subst hp; exact Go.st (fun t k => XS.imul X.here hx rfl (hb hby hd) rfl k) k
theorem Go.iand {x y : Int32} (X : Stand p l e R s m args below meth c T locs cells slots) (hx : p.tables.exec = Jvm.exec) (hby : c.code = by_) (hd : decode by_ pc = .ok (.iand, 1)) (hp : pc + 1 = pc') (k : Go p e below P (T.setTop (mkF m pc' Ls (.int (x &&& y) :: rest)))) : Go p e below P (T.setTop (mkF m pc Ls (.int y :: .int x :: rest))) := by
  subst hp; exact Go.st (fun t k => XS.iand X.here hx rfl (hb hby hd) rfl k) k
theorem Go.ior {x y : Int32} (X : Stand p l e R s m args below meth c T locs cells slots) (hx : p.tables.exec = Jvm.exec) (hby : c.code = by_) (hd : decode by_ pc = .ok (.ior, 1)) (hp : pc + 1 = pc') (k : Go p e below P (T.setTop (mkF m pc' Ls (.int (x ||| y) :: rest)))) : Go p e below P (T.setTop (mkF m pc Ls (.int y :: .int x :: rest))) := by
  subst hp; exact Go.st (fun t k => XS.ior X.here hx rfl (hb hby hd) rfl k) k
theorem Go.ixor {x y : Int32} (X : Stand p l e R s m args below meth c T locs cells slots) (hx : p.tables.exec = Jvm.exec) (hby : c.code = by_) (hd : decode by_ pc = .ok (.ixor, 1)) (hp : pc + 1 = pc') (k : Go p e below P (T.setTop (mkF m pc' Ls (.int (x ^^^ y) :: rest)))) : Go p e below P (T.setTop (mkF m pc Ls (.int y :: .int x :: rest))) := by
  subst hp; exact Go.st (fun t k => XS.ixor X.here hx rfl (hb hby hd) rfl k) k
theorem Go.ladd {x y : Int64} (X : Stand p l e R s m args below meth c T locs cells slots) (hx : p.tables.exec = Jvm.exec) (hby : c.code = by_) (hd : decode by_ pc = .ok (.ladd, 1)) (hp : pc + 1 = pc') (k : Go p e below P (T.setTop (mkF m pc' Ls (.long (x + y) :: rest)))) : Go p e below P (T.setTop (mkF m pc Ls (.long y :: .long x :: rest))) := by
  subst hp; exact Go.st (fun t k => XS.ladd X.here hx rfl (hb hby hd) rfl k) k
theorem Go.lsub {x y : Int64} (X : Stand p l e R s m args below meth c T locs cells slots) (hx : p.tables.exec = Jvm.exec) (hby : c.code = by_) (hd : decode by_ pc = .ok (.lsub, 1)) (hp : pc + 1 = pc') (k : Go p e below P (T.setTop (mkF m pc' Ls (.long (x - y) :: rest)))) : Go p e below P (T.setTop (mkF m pc Ls (.long y :: .long x :: rest))) := by
  subst hp; exact Go.st (fun t k => XS.lsub X.here hx rfl (hb hby hd) rfl k) k
theorem Go.lmul {x y : Int64} (X : Stand p l e R s m args below meth c T locs cells slots) (hx : p.tables.exec = Jvm.exec) (hby : c.code = by_) (hd : decode by_ pc = .ok (.lmul, 1)) (hp : pc + 1 = pc') (k : Go p e below P (T.setTop (mkF m pc' Ls (.long (x * y) :: rest)))) : Go p e below P (T.setTop (mkF m pc Ls (.long y :: .long x :: rest))) := by
  subst hp; exact Go.st (fun t k => XS.lmul X.here hx rfl (hb hby hd) rfl k) k
theorem Go.land {x y : Int64} (X : Stand p l e R s m args below meth c T locs cells slots) (hx : p.tables.exec = Jvm.exec) (hby : c.code = by_) (hd : decode by_ pc = .ok (.land, 1)) (hp : pc + 1 = pc') (k : Go p e below P (T.setTop (mkF m pc' Ls (.long (x &&& y) :: rest)))) : Go p e below P (T.setTop (mkF m pc Ls (.long y :: .long x :: rest))) := by
  subst hp; exact Go.st (fun t k => XS.land X.here hx rfl (hb hby hd) rfl k) k
theorem Go.lor {x y : Int64} (X : Stand p l e R s m args below meth c T locs cells slots) (hx : p.tables.exec = Jvm.exec) (hby : c.code = by_) (hd : decode by_ pc = .ok (.lor, 1)) (hp : pc + 1 = pc') (k : Go p e below P (T.setTop (mkF m pc' Ls (.long (x ||| y) :: rest)))) : Go p e below P (T.setTop (mkF m pc Ls (.long y :: .long x :: rest))) := by
  subst hp; exact Go.st (fun t k => XS.lor X.here hx rfl (hb hby hd) rfl k) k
theorem Go.lxor {x y : Int64} (X : Stand p l e R s m args below meth c T locs cells slots) (hx : p.tables.exec = Jvm.exec) (hby : c.code = by_) (hd : decode by_ pc = .ok (.lxor, 1)) (hp : pc + 1 = pc') (k : Go p e below P (T.setTop (mkF m pc' Ls (.long (x ^^^ y) :: rest)))) : Go p e below P (T.setTop (mkF m pc Ls (.long y :: .long x :: rest))) := by
  subst hp; exact Go.st (fun t k => XS.lxor X.here hx rfl (hb hby hd) rfl k) k
theorem Go.ishl {x y : Int32} (X : Stand p l e R s m args below meth c T locs cells slots) (hx : p.tables.exec = Jvm.exec) (hby : c.code = by_) (hd : decode by_ pc = .ok (.ishl, 1)) (hp : pc + 1 = pc') (k : Go p e below P (T.setTop (mkF m pc' Ls (.int (x <<< (y &&& 31)) :: rest)))) : Go p e below P (T.setTop (mkF m pc Ls (.int y :: .int x :: rest))) := by
  subst hp; exact Go.st (fun t k => XS.ishl X.here hx rfl (hb hby hd) rfl k) k
theorem Go.ishr {x y : Int32} (X : Stand p l e R s m args below meth c T locs cells slots) (hx : p.tables.exec = Jvm.exec) (hby : c.code = by_) (hd : decode by_ pc = .ok (.ishr, 1)) (hp : pc + 1 = pc') (k : Go p e below P (T.setTop (mkF m pc' Ls (.int (x >>> (y &&& 31)) :: rest)))) : Go p e below P (T.setTop (mkF m pc Ls (.int y :: .int x :: rest))) := by
  subst hp; exact Go.st (fun t k => XS.ishr X.here hx rfl (hb hby hd) rfl k) k
theorem Go.iushr {x y : Int32} (X : Stand p l e R s m args below meth c T locs cells slots) (hx : p.tables.exec = Jvm.exec) (hby : c.code = by_) (hd : decode by_ pc = .ok (.iushr, 1)) (hp : pc + 1 = pc') (k : Go p e below P (T.setTop (mkF m pc' Ls (.int ((x.toUInt32 >>> (y &&& 31).toUInt32).toInt32) :: rest)))) : Go p e below P (T.setTop (mkF m pc Ls (.int y :: .int x :: rest))) := by
  subst hp; exact Go.st (fun t k => XS.iushr X.here hx rfl (hb hby hd) rfl k) k
theorem Go.lshl {x : Int64} {y : Int32} (X : Stand p l e R s m args below meth c T locs cells slots) (hx : p.tables.exec = Jvm.exec) (hby : c.code = by_) (hd : decode by_ pc = .ok (.lshl, 1)) (hp : pc + 1 = pc') (k : Go p e below P (T.setTop (mkF m pc' Ls (.long (x <<< (y &&& 0x3f).toInt64) :: rest)))) : Go p e below P (T.setTop (mkF m pc Ls (.int y :: .long x :: rest))) := by
  subst hp; exact Go.st (fun t k => XS.lshl X.here hx rfl (hb hby hd) rfl k) k
theorem Go.lshr {x : Int64} {y : Int32} (X : Stand p l e R s m args below meth c T locs cells slots) (hx : p.tables.exec = Jvm.exec) (hby : c.code = by_) (hd : decode by_ pc = .ok (.lshr, 1)) (hp : pc + 1 = pc') (k : Go p e below P (T.setTop (mkF m pc' Ls (.long (x >>> (y &&& 0x3f).toInt64) :: rest)))) : Go p e below P (T.setTop (mkF m pc Ls (.int y :: .long x :: rest))) := by
  subst hp; exact Go.st (fun t k => XS.lshr X.here hx rfl (hb hby hd) rfl k) k
theorem Go.lushr {x : Int64} {y : Int32} (X : Stand p l e R s m args below meth c T locs cells slots) (hx : p.tables.exec = Jvm.exec) (hby : c.code = by_) (hd : decode by_ pc = .ok (.lushr, 1)) (hp : pc + 1 = pc') (k : Go p e below P (T.setTop (mkF m pc' Ls (.long ((x.toUInt64 >>> (y &&& 0x3f).toInt64.toUInt64).toInt64) :: rest)))) : Go p e below P (T.setTop (mkF m pc Ls (.int y :: .long x :: rest))) := by
  subst hp; exact Go.st (fun t k => XS.lushr X.here hx rfl (hb hby hd) rfl k) k
theorem Go.ineg {x : Int32} (X : Stand p l e R s m args below meth c T locs cells slots) (hx : p.tables.exec = Jvm.exec) (hby : c.code = by_) (hd : decode by_ pc = .ok (.ineg, 1)) (hp : pc + 1 = pc') (k : Go p e below P (T.setTop (mkF m pc' Ls (.int (-x) :: rest)))) : Go p e below P (T.setTop (mkF m pc Ls (.int x :: rest))) := by
  subst hp; exact Go.st (fun t k => XS.ineg X.here hx rfl (hb hby hd) rfl k) k
theorem Go.lneg {x : Int64} (X : Stand p l e R s m args below meth c T locs cells slots) (hx : p.tables.exec = Jvm.exec) (hby : c.code = by_) (hd : decode by_ pc = .ok (.lneg, 1)) (hp : pc + 1 = pc') (k : Go p e below P (T.setTop (mkF m pc' Ls (.long (-x) :: rest)))) : Go p e below P (T.setTop (mkF m pc Ls (.long x :: rest))) := by
  subst hp; exact Go.st (fun t k => XS.lneg X.here hx rfl (hb hby hd) rfl k) k
theorem Go.i2b {x : Int32} (X : Stand p l e R s m args below meth c T locs cells slots) (hx : p.tables.exec = Jvm.exec) (hby : c.code = by_) (hd : decode by_ pc = .ok (.i2b, 1)) (hp : pc + 1 = pc') (k : Go p e below P (T.setTop (mkF m pc' Ls (.int (x.toInt8.toInt32) :: rest)))) : Go p e below P (T.setTop (mkF m pc Ls (.int x :: rest))) := by
  subst hp; exact Go.st (fun t k => XS.i2b X.here hx rfl (hb hby hd) rfl k) k
theorem Go.i2c {x : Int32} (X : Stand p l e R s m args below meth c T locs cells slots) (hx : p.tables.exec = Jvm.exec) (hby : c.code = by_) (hd : decode by_ pc = .ok (.i2c, 1)) (hp : pc + 1 = pc') (k : Go p e below P (T.setTop (mkF m pc' Ls (.int (x.toUInt32.toUInt16.toUInt32.toInt32) :: rest)))) : Go p e below P (T.setTop (mkF m pc Ls (.int x :: rest))) := by
  subst hp; exact Go.st (fun t k => XS.i2c X.here hx rfl (hb hby hd) rfl k) k
theorem Go.i2s {x : Int32} (X : Stand p l e R s m args below meth c T locs cells slots) (hx : p.tables.exec = Jvm.exec) (hby : c.code = by_) (hd : decode by_ pc = .ok (.i2s, 1)) (hp : pc + 1 = pc') (k : Go p e below P (T.setTop (mkF m pc' Ls (.int (x.toInt16.toInt32) :: rest)))) : Go p e below P (T.setTop (mkF m pc Ls (.int x :: rest))) := by
  subst hp; exact Go.st (fun t k => XS.i2s X.here hx rfl (hb hby hd) rfl k) k
theorem Go.i2l {x : Int32} (X : Stand p l e R s m args below meth c T locs cells slots) (hx : p.tables.exec = Jvm.exec) (hby : c.code = by_) (hd : decode by_ pc = .ok (.i2l, 1)) (hp : pc + 1 = pc') (k : Go p e below P (T.setTop (mkF m pc' Ls (.long (x.toInt64) :: rest)))) : Go p e below P (T.setTop (mkF m pc Ls (.int x :: rest))) := by
  subst hp; exact Go.st (fun t k => XS.i2l X.here hx rfl (hb hby hd) rfl k) k
theorem Go.l2i {x : Int64} (X : Stand p l e R s m args below meth c T locs cells slots) (hx : p.tables.exec = Jvm.exec) (hby : c.code = by_) (hd : decode by_ pc = .ok (.l2i, 1)) (hp : pc + 1 = pc') (k : Go p e below P (T.setTop (mkF m pc' Ls (.int (x.toInt32) :: rest)))) : Go p e below P (T.setTop (mkF m pc Ls (.long x :: rest))) := by
  subst hp; exact Go.st (fun t k => XS.l2i X.here hx rfl (hb hby hd) rfl k) k
theorem Go.lcmp {x y : Int64} (X : Stand p l e R s m args below meth c T locs cells slots) (hx : p.tables.exec = Jvm.exec) (hby : c.code = by_) (hd : decode by_ pc = .ok (.lcmp, 1)) (hp : pc + 1 = pc') (k : Go p e below P (T.setTop (mkF m pc' Ls (.int (lcmpW x y) :: rest)))) : Go p e below P (T.setTop (mkF m pc Ls (.long y :: .long x :: rest))) := by
  subst hp; exact Go.st (fun t k => XS.lcmp X.here hx rfl (hb hby hd) rfl k) k
theorem Go.idiv {x y : Int32} (X : Stand p l e R s m args below meth c T locs cells slots) (hx : p.tables.exec = Jvm.exec) (hby : c.code = by_) (hd : decode by_ pc = .ok (.idiv, 1)) (hp : pc + 1 = pc') (hy : y ≠ 0) (k : Go p e below P (T.setTop (mkF m pc' Ls (.int (x / y) :: rest)))) : Go p e below P (T.setTop (mkF m pc Ls (.int y :: .int x :: rest))) := by
  subst hp; exact Go.st (fun t k => XS.idiv X.here hx rfl (hb hby hd) rfl hy k) k
theorem Go.irem {x y : Int32} (X : Stand p l e R s m args below meth c T locs cells slots) (hx : p.tables.exec = Jvm.exec) (hby : c.code = by_) (hd : decode by_ pc = .ok (.irem, 1)) (hp : pc + 1 = pc') (hy : y ≠ 0) (k : Go p e below P (T.setTop (mkF m pc' Ls (.int (x % y) :: rest)))) : Go p e below P (T.setTop (mkF m pc Ls (.int y :: .int x :: rest))) := by
  subst hp; exact Go.st (fun t k => iremM X hx rfl (hb hby hd) rfl hy k) k
theorem Go.ldiv {x y : Int64} (X : Stand p l e R s m args below meth c T locs cells slots) (hx : p.tables.exec = Jvm.exec) (hby : c.code = by_) (hd : decode by_ pc = .ok (.ldiv, 1)) (hp : pc + 1 = pc') (hy : y ≠ 0) (k : Go p e below P (T.setTop (mkF m pc' Ls (.long (x / y) :: rest)))) : Go p e below P (T.setTop (mkF m pc Ls (.long y :: .long x :: rest))) := by
  subst hp; exact Go.st (fun t k => XS.ldiv X.here hx rfl (hb hby hd) rfl hy k) k
theorem Go.lrem {x y : Int64} (X : Stand p l e R s m args below meth c T locs cells slots) (hx : p.tables.exec = Jvm.exec) (hby : c.code = by_) (hd : decode by_ pc = .ok (.lrem, 1)) (hp : pc + 1 = pc') (hy : y ≠ 0) (k : Go p e below P (T.setTop (mkF m pc' Ls (.long (x - (x / y) * y) :: rest)))) : Go p e below P (T.setTop (mkF m pc Ls (.long y :: .long x :: rest))) := by
  subst hp; exact Go.st (fun t k => XS.lrem X.here hx rfl (hb hby hd) rfl hy k) k
theorem Go.dup {w : Value} (X : Stand p l e R s m args below meth c T locs cells slots) (hx : p.tables.exec = Jvm.exec) (hby : c.code = by_) (hd : decode by_ pc = .ok (.dup, 1)) (hp : pc + 1 = pc') (hc : w.category = 1) (k : Go p e below P (T.setTop (mkF m pc' Ls (w :: w :: rest)))) : Go p e below P (T.setTop (mkF m pc Ls (w :: rest))) := by
  subst hp; exact Go.st (fun t k => XS.dup X.here hx rfl (hb hby hd) rfl hc k) k
theorem Go.pop {w : Value} (X : Stand p l e R s m args below meth c T locs cells slots) (hx : p.tables.exec = Jvm.exec) (hby : c.code = by_) (hd : decode by_ pc = .ok (.pop, 1)) (hp : pc + 1 = pc') (hc : w.category = 1) (k : Go p e below P (T.setTop (mkF m pc' Ls rest))) : Go p e below P (T.setTop (mkF m pc Ls (w :: rest))) := by
  subst hp; exact Go.st (fun t k => XS.pop X.here hx rfl (hb hby hd) rfl hc k) k
theorem Go.dupX1 {w u : Value} (X : Stand p l e R s m args below meth c T locs cells slots) (hx : p.tables.exec = Jvm.exec) (hby : c.code = by_) (hd : decode by_ pc = .ok (.dup_x1, 1)) (hp : pc + 1 = pc') (hc : w.category = 1) (hc2 : u.category = 1) (k : Go p e below P (T.setTop (mkF m pc' Ls (w :: u :: w :: rest)))) : Go p e below P (T.setTop (mkF m pc Ls (w :: u :: rest))) := by
  subst hp; exact Go.st (fun t k => XS.dupX1 X.here hx rfl (hb hby hd) rfl hc hc2 k) k
theorem Go.dup2 {w u : Value} (X : Stand p l e R s m args below meth c T locs cells slots) (hx : p.tables.exec = Jvm.exec) (hby : c.code = by_) (hd : decode by_ pc = .ok (.dup2, 1)) (hp : pc + 1 = pc') (hc : w.category = 1) (hc2 : u.category = 1) (k : Go p e below P (T.setTop (mkF m pc' Ls (w :: u :: w :: u :: rest)))) : Go p e below P (T.setTop (mkF m pc Ls (w :: u :: rest))) := by
  subst hp; exact Go.st (fun t k => XT.dup2 X.here hx rfl (hb hby hd) rfl hc hc2 k) k
theorem Go.iconst {i : Int} {v : Int32} (X : Stand p l e R s m args below meth c T locs cells slots) (hx : p.tables.exec = Jvm.exec) (hby : c.code = by_) (hd : decode by_ pc = .ok (.iconst i, 1)) (hp : pc + 1 = pc') (hv : Int32.ofInt i = v) (k : Go p e below P (T.setTop (mkF m pc' Ls (.int v :: rest)))) : Go p e below P (T.setTop (mkF m pc Ls rest)) := by
  subst hp; exact Go.st (fun t k => XS.iconst X.here hx rfl (hb hby hd) (by rw [hv]; exact k)) k
theorem Go.bipush {i : Int} {v : Int32} (X : Stand p l e R s m args below meth c T locs cells slots) (hx : p.tables.exec = Jvm.exec) (hby : c.code = by_) (hd : decode by_ pc = .ok (.bipush i, 2)) (hp : pc + 2 = pc') (hv : (Int8.ofInt i).toInt32 = v) (k : Go p e below P (T.setTop (mkF m pc' Ls (.int v :: rest)))) : Go p e below P (T.setTop (mkF m pc Ls rest)) := by
  subst hp; exact Go.st (fun t k => XS.bipush X.here hx rfl (hb hby hd) (by rw [hv]; exact k)) k
theorem Go.sipush {i : Int} {v : Int32} (X : Stand p l e R s m args below meth c T locs cells slots) (hx : p.tables.exec = Jvm.exec) (hby : c.code = by_) (hd : decode by_ pc = .ok (.sipush i, 3)) (hp : pc + 3 = pc') (hv : (Int16.ofInt i).toInt32 = v) (k : Go p e below P (T.setTop (mkF m pc' Ls (.int v :: rest)))) : Go p e below P (T.setTop (mkF m pc Ls rest)) := by
  subst hp; exact Go.st (fun t k => XS.sipush X.here hx rfl (hb hby hd) (by rw [hv]; exact k)) k
theorem Go.lconst {i : Fin 2} {v : Int64} (X : Stand p l e R s m args below meth c T locs cells slots) (hx : p.tables.exec = Jvm.exec) (hby : c.code = by_) (hd : decode by_ pc = .ok (.lconst i, 1)) (hp : pc + 1 = pc') (hv : Int64.ofNat i = v) (k : Go p e below P (T.setTop (mkF m pc' Ls (.long v :: rest)))) : Go p e below P (T.setTop (mkF m pc Ls rest)) := by
  subst hp; exact Go.st (fun t k => XS.lconst X.here hx rfl (hb hby hd) (by rw [hv]; exact k)) k
theorem Go.aconstNull  (X : Stand p l e R s m args below meth c T locs cells slots) (hx : p.tables.exec = Jvm.exec) (hby : c.code = by_) (hd : decode by_ pc = .ok (.aconst_null, 1)) (hp : pc + 1 = pc') (k : Go p e below P (T.setTop (mkF m pc' Ls (.null :: rest)))) : Go p e below P (T.setTop (mkF m pc Ls rest)) := by
  subst hp; exact Go.st (fun t k => XS.aconstNull X.here hx rfl (hb hby hd) k) k
theorem Go.iloadN {i : Fin 4} {v : Int32} (X : Stand p l e R s m args below meth c T locs cells slots) (hx : p.tables.exec = Jvm.exec) (hby : c.code = by_) (hd : decode by_ pc = .ok (.iload_n i, 1)) (hp : pc + 1 = pc') (hl : Ls[i.val]? = some (.val (.int v))) (k : Go p e below P (T.setTop (mkF m pc' Ls (.int v :: rest)))) : Go p e below P (T.setTop (mkF m pc Ls rest)) := by
  subst hp; exact Go.st (fun t k => XS.iloadN X.here hx rfl (hb hby hd) hl k) k
theorem Go.iload {i : Nat} {v : Int32} (X : Stand p l e R s m args below meth c T locs cells slots) (hx : p.tables.exec = Jvm.exec) (hby : c.code = by_) (hd : decode by_ pc = .ok (.iload i, 2)) (hp : pc + 2 = pc') (hl : Ls[i]? = some (.val (.int v))) (k : Go p e below P (T.setTop (mkF m pc' Ls (.int v :: rest)))) : Go p e below P (T.setTop (mkF m pc Ls rest)) := by
  subst hp; exact Go.st (fun t k => XS.iload X.here hx rfl (hb hby hd) hl k) k
theorem Go.lloadN {i : Fin 4} {v : Int64} (X : Stand p l e R s m args below meth c T locs cells slots) (hx : p.tables.exec = Jvm.exec) (hby : c.code = by_) (hd : decode by_ pc = .ok (.lload_n i, 1)) (hp : pc + 1 = pc') (hl : Ls[i.val]? = some (.val (.long v))) (k : Go p e below P (T.setTop (mkF m pc' Ls (.long v :: rest)))) : Go p e below P (T.setTop (mkF m pc Ls rest)) := by
  subst hp; exact Go.st (fun t k => XS.lloadN X.here hx rfl (hb hby hd) hl k) k
theorem Go.lload {i : Nat} {v : Int64} (X : Stand p l e R s m args below meth c T locs cells slots) (hx : p.tables.exec = Jvm.exec) (hby : c.code = by_) (hd : decode by_ pc = .ok (.lload i, 2)) (hp : pc + 2 = pc') (hl : Ls[i]? = some (.val (.long v))) (k : Go p e below P (T.setTop (mkF m pc' Ls (.long v :: rest)))) : Go p e below P (T.setTop (mkF m pc Ls rest)) := by
  subst hp; exact Go.st (fun t k => XS.lload X.here hx rfl (hb hby hd) hl k) k
theorem Go.aloadN {i : Fin 4} {v : Value} (X : Stand p l e R s m args below meth c T locs cells slots) (hx : p.tables.exec = Jvm.exec) (hby : c.code = by_) (hd : decode by_ pc = .ok (.aload_n i, 1)) (hp : pc + 1 = pc') (hl : Ls[i.val]? = some (.val v)) (hv : v.isRef = true) (k : Go p e below P (T.setTop (mkF m pc' Ls (v :: rest)))) : Go p e below P (T.setTop (mkF m pc Ls rest)) := by
  subst hp; exact Go.st (fun t k => XS.aloadN X.here hx rfl (hb hby hd) hl hv k) k
theorem Go.aload {i : Nat} {v : Value} (X : Stand p l e R s m args below meth c T locs cells slots) (hx : p.tables.exec = Jvm.exec) (hby : c.code = by_) (hd : decode by_ pc = .ok (.aload i, 2)) (hp : pc + 2 = pc') (hl : Ls[i]? = some (.val v)) (hv : v.isRef = true) (k : Go p e below P (T.setTop (mkF m pc' Ls (v :: rest)))) : Go p e below P (T.setTop (mkF m pc Ls rest)) := by
  subst hp; exact Go.st (fun t k => XS.aload X.here hx rfl (hb hby hd) hl hv k) k
theorem Go.ldcI {own : String} {index : Nat} {v : Int32} (X : Stand p l e R s m args below meth c T locs cells slots) (hx : p.tables.exec = Jvm.exec) (hby : c.code = by_) (hd : decode by_ pc = .ok (.ldc index, 2)) (hp : pc + 2 = pc') (hown : s.vm.findClass own = some m.cls) (hk : (Jvm.Cond.constant own index v).before args s = true) (k : Go p e below P (T.setTop (mkF m pc' Ls (.int v :: rest)))) : Go p e below P (T.setTop (mkF m pc Ls rest)) := by
  subst hp; exact Go.st (fun t k => X.ldcI hx hown hk rfl (hb hby hd) k) k
theorem Go.ldcWI {own : String} {index : Nat} {v : Int32} (X : Stand p l e R s m args below meth c T locs cells slots) (hx : p.tables.exec = Jvm.exec) (hby : c.code = by_) (hd : decode by_ pc = .ok (.ldc_w index, 3)) (hp : pc + 3 = pc') (hown : s.vm.findClass own = some m.cls) (hk : (Jvm.Cond.constant own index v).before args s = true) (k : Go p e below P (T.setTop (mkF m pc' Ls (.int v :: rest)))) : Go p e below P (T.setTop (mkF m pc Ls rest)) := by
  subst hp; exact Go.st (fun t k => X.ldcWI hx hown hk rfl (hb hby hd) k) k
theorem Go.ldc2J {own : String} {index : Nat} {v : Int64} (X : Stand p l e R s m args below meth c T locs cells slots) (hx : p.tables.exec = Jvm.exec) (hby : c.code = by_) (hd : decode by_ pc = .ok (.ldc2_w index, 3)) (hp : pc + 3 = pc') (hown : s.vm.findClass own = some m.cls) (hk : (Jvm.Cond.constantLong own index v).before args s = true) (k : Go p e below P (T.setTop (mkF m pc' Ls (.long v :: rest)))) : Go p e below P (T.setTop (mkF m pc Ls rest)) := by
  subst hp; exact Go.st (fun t k => X.ldc2J hx hown hk rfl (hb hby hd) k) k
theorem Go.istoreN {i : Fin 4} {v : Int32} {Ls' : Array Slot} (X : Stand p l e R s m args below meth c T locs cells slots) (hx : p.tables.exec = Jvm.exec) (hby : c.code = by_) (hd : decode by_ pc = .ok (.istore_n i, 1)) (hp : pc + 1 = pc') (hl : storeLocals Ls i.val (.int v) = some Ls') (k : Go p e below P (T.setTop (mkF m pc' Ls' rest))) : Go p e below P (T.setTop (mkF m pc Ls (.int v :: rest))) := by
  subst hp; exact Go.st (fun t k => XS.istoreN X.here hx rfl (hb hby hd) rfl hl k) k
theorem Go.istore {i : Nat} {v : Int32} {Ls' : Array Slot} (X : Stand p l e R s m args below meth c T locs cells slots) (hx : p.tables.exec = Jvm.exec) (hby : c.code = by_) (hd : decode by_ pc = .ok (.istore i, 2)) (hp : pc + 2 = pc') (hl : storeLocals Ls i (.int v) = some Ls') (k : Go p e below P (T.setTop (mkF m pc' Ls' rest))) : Go p e below P (T.setTop (mkF m pc Ls (.int v :: rest))) := by
  subst hp; exact Go.st (fun t k => XS.istore X.here hx rfl (hb hby hd) rfl hl k) k
theorem Go.lstoreN {i : Fin 4} {v : Int64} {Ls' : Array Slot} (X : Stand p l e R s m args below meth c T locs cells slots) (hx : p.tables.exec = Jvm.exec) (hby : c.code = by_) (hd : decode by_ pc = .ok (.lstore_n i, 1)) (hp : pc + 1 = pc') (hl : storeLocals Ls i.val (.long v) = some Ls') (k : Go p e below P (T.setTop (mkF m pc' Ls' rest))) : Go p e below P (T.setTop (mkF m pc Ls (.long v :: rest))) := by
  subst hp; exact Go.st (fun t k => XS.lstoreN X.here hx rfl (hb hby hd) rfl hl k) k
theorem Go.lstore {i : Nat} {v : Int64} {Ls' : Array Slot} (X : Stand p l e R s m args below meth c T locs cells slots) (hx : p.tables.exec = Jvm.exec) (hby : c.code = by_) (hd : decode by_ pc = .ok (.lstore i, 2)) (hp : pc + 2 = pc') (hl : storeLocals Ls i (.long v) = some Ls') (k : Go p e below P (T.setTop (mkF m pc' Ls' rest))) : Go p e below P (T.setTop (mkF m pc Ls (.long v :: rest))) := by
  subst hp; exact Go.st (fun t k => XS.lstore X.here hx rfl (hb hby hd) rfl hl k) k
theorem Go.astoreN {i : Fin 4} {v : Value} {Ls' : Array Slot} (X : Stand p l e R s m args below meth c T locs cells slots) (hx : p.tables.exec = Jvm.exec) (hby : c.code = by_) (hd : decode by_ pc = .ok (.astore_n i, 1)) (hp : pc + 1 = pc') (hv : v.isRef = true) (hl : storeLocals Ls i.val v = some Ls') (k : Go p e below P (T.setTop (mkF m pc' Ls' rest))) : Go p e below P (T.setTop (mkF m pc Ls (v :: rest))) := by
  subst hp; exact Go.st (fun t k => XS.astoreN X.here hx rfl (hb hby hd) rfl hv hl k) k
theorem Go.astore {i : Nat} {v : Value} {Ls' : Array Slot} (X : Stand p l e R s m args below meth c T locs cells slots) (hx : p.tables.exec = Jvm.exec) (hby : c.code = by_) (hd : decode by_ pc = .ok (.astore i, 2)) (hp : pc + 2 = pc') (hv : v.isRef = true) (hl : storeLocals Ls i v = some Ls') (k : Go p e below P (T.setTop (mkF m pc' Ls' rest))) : Go p e below P (T.setTop (mkF m pc Ls (v :: rest))) := by
  subst hp; exact Go.st (fun t k => XS.astore X.here hx rfl (hb hby hd) rfl hv hl k) k
theorem Go.iinc {i : Nat} {cst : Int} {v w : Int32} {Ls' : Array Slot} (X : Stand p l e R s m args below meth c T locs cells slots) (hx : p.tables.exec = Jvm.exec) (hby : c.code = by_) (hd : decode by_ pc = .ok (.iinc i cst, 3)) (hp : pc + 3 = pc') (hl : Ls[i]? = some (.val (.int v))) (hv : v + Int32.ofInt cst = w) (hl' : storeLocals Ls i (.int w) = some Ls') (k : Go p e below P (T.setTop (mkF m pc' Ls' rest))) : Go p e below P (T.setTop (mkF m pc Ls rest)) := by
  subst hp hv; exact Go.st (fun t k => XS.iinc X.here hx rfl (hb hby hd) hl hl' k) k
theorem Go.goto {o : Int} (X : Stand p l e R s m args below meth c T locs cells slots) (hx : p.tables.exec = Jvm.exec) (hby : c.code = by_) (hd : decode by_ pc = .ok (.goto o, 3)) (ho : 0 ≤ (pc : Int) + o) (hp : ((pc : Int) + o).toNat = pc') (k : Go p e below P (T.setTop (mkF m pc' Ls rest))) : Go p e below P (T.setTop (mkF m pc Ls rest)) :=
  Go.st (fun t k => XS.goto X.here hx rfl rfl (hb hby hd) ho hp k) k
theorem Go.icmpY {cd : ClassFile.Cond} {o : Int} {x y : Int32} (X : Stand p l e R s m args below meth c T locs cells slots) (hx : p.tables.exec = Jvm.exec) (hby : c.code = by_) (hd : decode by_ pc = .ok (.if_icmp cd o, 3)) (ho : 0 ≤ (pc : Int) + o) (hp : ((pc : Int) + o).toNat = pc') (q : icP cd x y) (k : Go p e below P (T.setTop (mkF m pc' Ls rest))) : Go p e below P (T.setTop (mkF m pc Ls (.int y :: .int x :: rest))) :=
  Go.st (fun t k => XS.icmpYes X.here hx rfl rfl (hb hby hd) rfl ((icP_iff cd x y).mpr q) ho hp k) k
theorem Go.icmpN {cd : ClassFile.Cond} {o : Int} {x y : Int32} (X : Stand p l e R s m args below meth c T locs cells slots) (hx : p.tables.exec = Jvm.exec) (hby : c.code = by_) (hd : decode by_ pc = .ok (.if_icmp cd o, 3)) (hp : pc + 3 = pc') (q : ¬ icP cd x y) (k : Go p e below P (T.setTop (mkF m pc' Ls rest))) : Go p e below P (T.setTop (mkF m pc Ls (.int y :: .int x :: rest))) := by
  subst hp; exact Go.st (fun t k => XS.icmpNo X.here hx rfl (hb hby hd) rfl (icP_not q) k) k
theorem Go.icmp {cd : ClassFile.Cond} {o : Int} {x y : Int32} {pn : Nat} (X : Stand p l e R s m args below meth c T locs cells slots) (hx : p.tables.exec = Jvm.exec) (hby : c.code = by_) (hd : decode by_ pc = .ok (.if_icmp cd o, 3)) (ho : 0 ≤ (pc : Int) + o) (hp : ((pc : Int) + o).toNat = pc') (hp2 : pc + 3 = pn) (k : icP cd x y → Go p e below P (T.setTop (mkF m pc' Ls rest))) (k2 : ¬ icP cd x y → Go p e below P (T.setTop (mkF m pn Ls rest))) : Go p e below P (T.setTop (mkF m pc Ls (.int y :: .int x :: rest))) := by
  by_cases q : icP cd x y
  · exact Go.icmpY X hx hby hd ho hp q (k q)
  · exact Go.icmpN X hx hby hd hp2 q (k2 q)
theorem Go.ifY {cd : ClassFile.Cond} {o : Int} {x : Int32} (X : Stand p l e R s m args below meth c T locs cells slots) (hx : p.tables.exec = Jvm.exec) (hby : c.code = by_) (hd : decode by_ pc = .ok (.ifCond cd o, 3)) (ho : 0 ≤ (pc : Int) + o) (hp : ((pc : Int) + o).toNat = pc') (q : icP cd x 0) (k : Go p e below P (T.setTop (mkF m pc' Ls rest))) : Go p e below P (T.setTop (mkF m pc Ls (.int x :: rest))) :=
  Go.st (fun t k => XS.ifYes X.here hx rfl rfl (hb hby hd) rfl (by rw [if0]; exact (icP_iff cd x 0).mpr q) ho hp k) k
theorem Go.ifN {cd : ClassFile.Cond} {o : Int} {x : Int32} (X : Stand p l e R s m args below meth c T locs cells slots) (hx : p.tables.exec = Jvm.exec) (hby : c.code = by_) (hd : decode by_ pc = .ok (.ifCond cd o, 3)) (hp : pc + 3 = pc') (q : ¬ icP cd x 0) (k : Go p e below P (T.setTop (mkF m pc' Ls rest))) : Go p e below P (T.setTop (mkF m pc Ls (.int x :: rest))) := by
  subst hp; exact Go.st (fun t k => XS.ifNo X.here hx rfl (hb hby hd) rfl (by rw [if0]; exact icP_not q) k) k
theorem Go.if_ {cd : ClassFile.Cond} {o : Int} {x : Int32} {pn : Nat} (X : Stand p l e R s m args below meth c T locs cells slots) (hx : p.tables.exec = Jvm.exec) (hby : c.code = by_) (hd : decode by_ pc = .ok (.ifCond cd o, 3)) (ho : 0 ≤ (pc : Int) + o) (hp : ((pc : Int) + o).toNat = pc') (hp2 : pc + 3 = pn) (k : icP cd x 0 → Go p e below P (T.setTop (mkF m pc' Ls rest))) (k2 : ¬ icP cd x 0 → Go p e below P (T.setTop (mkF m pn Ls rest))) : Go p e below P (T.setTop (mkF m pc Ls (.int x :: rest))) := by
  by_cases q : icP cd x 0
  · exact Go.ifY X hx hby hd ho hp q (k q)
  · exact Go.ifN X hx hby hd hp2 q (k2 q)
theorem Go.ifnullY {o : Int} (X : Stand p l e R s m args below meth c T locs cells slots) (hx : p.tables.exec = Jvm.exec) (hby : c.code = by_) (hd : decode by_ pc = .ok (.ifnull o, 3)) (ho : 0 ≤ (pc : Int) + o) (hp : ((pc : Int) + o).toNat = pc') (k : Go p e below P (T.setTop (mkF m pc' Ls rest))) : Go p e below P (T.setTop (mkF m pc Ls (.null :: rest))) :=
  Go.st (fun t k => XS.ifnullYes X.here hx rfl rfl (hb hby hd) rfl ho hp k) k
theorem Go.ifnullN {o : Int} {b : Addr} (X : Stand p l e R s m args below meth c T locs cells slots) (hx : p.tables.exec = Jvm.exec) (hby : c.code = by_) (hd : decode by_ pc = .ok (.ifnull o, 3)) (hp : pc + 3 = pc') (k : Go p e below P (T.setTop (mkF m pc' Ls rest))) : Go p e below P (T.setTop (mkF m pc Ls (.ref b :: rest))) := by
  subst hp; exact Go.st (fun t k => XS.ifnullNo X.here hx rfl (hb hby hd) rfl k) k
theorem Go.ifnonnullY {o : Int} {b : Addr} (X : Stand p l e R s m args below meth c T locs cells slots) (hx : p.tables.exec = Jvm.exec) (hby : c.code = by_) (hd : decode by_ pc = .ok (.ifnonnull o, 3)) (ho : 0 ≤ (pc : Int) + o) (hp : ((pc : Int) + o).toNat = pc') (k : Go p e below P (T.setTop (mkF m pc' Ls rest))) : Go p e below P (T.setTop (mkF m pc Ls (.ref b :: rest))) :=
  Go.st (fun t k => XS.ifnonnullYes X.here hx rfl rfl (hb hby hd) rfl ho hp k) k
theorem Go.ifnonnullN {o : Int} (X : Stand p l e R s m args below meth c T locs cells slots) (hx : p.tables.exec = Jvm.exec) (hby : c.code = by_) (hd : decode by_ pc = .ok (.ifnonnull o, 3)) (hp : pc + 3 = pc') (k : Go p e below P (T.setTop (mkF m pc' Ls rest))) : Go p e below P (T.setTop (mkF m pc Ls (.null :: rest))) := by
  subst hp; exact Go.st (fun t k => XS.ifnonnullNo X.here hx rfl (hb hby hd) rfl k) k
theorem Go.acmpEq {o : Int} {b : Addr} (X : Stand p l e R s m args below meth c T locs cells slots) (hx : p.tables.exec = Jvm.exec) (hby : c.code = by_) (hd : decode by_ pc = .ok (.if_acmp .eq o, 3)) (ho : 0 ≤ (pc : Int) + o) (hp : ((pc : Int) + o).toNat = pc') (k : Go p e below P (T.setTop (mkF m pc' Ls rest))) : Go p e below P (T.setTop (mkF m pc Ls (.ref b :: .ref b :: rest))) :=
  Go.st (fun t k => acmp X hx rfl (x := .ref b) (y := .ref b) rfl rfl rfl (hb hby hd) rfl (same := true) (by simp) ho (hp.symm.trans (if_pos rfl).symm) k) k
theorem Go.callS {own : String} {index : Nat} {y : MethodName} {bytes : ByteArray} {maxL : Nat} {ret : Option FieldType} {rm : Room} {W : Nat} {as : Array Value} {Qc : Option Value → Heap → List Loc → Prop} {argsL st : List Value} {ps : List FieldType} {rt : Option FieldType} (X : Stand p l e R s m args below meth c T locs cells slots) (hx : p.tables.exec = Jvm.exec) (hby : c.code = by_) (hZ : Z.Warmed39 s.vm) (hown : s.vm.findClass own = some m.cls)
    (w1 : (Jvm.Cond.methodLink own index y).before a0 Z = true) (w2 : (Jvm.Cond.static y).before a0 Z = true) (w3 : (Jvm.Cond.initialized y.cls).before a0 Z = true) (w4 : (Jvm.Cond.code y bytes maxL ret).before a0 Z = true) (hy : y.cls ≠ "java/lang/invoke/MethodHandle" ∧ y.cls ≠ "java/lang/invoke/VarHandle")
    (hM : Con l Z y bytes maxL ret [] rm as h Qc) (eT : T.heap = h) (hf : rm.frames + 1 ≤ R.frames) (hl : W + (maxL + 11) + rm.locals ≤ R.locals) (hsize : Ls.size = c.maxLocals) (hpd : parseMethodDescriptor y.desc = some ⟨ps, rt⟩) (hlen : argsL.length = ps.length) (hst : st = argsL.reverse ++ rest) (has : argsL.toArray = as) (hW : 0 + (rest.map fun v => v.category).sum ≤ W)
    (hd : decode by_ pc = .ok (.invokestatic index, 3)) (hp : pc + 3 = pc') (hc : cells + rm.cells ≤ R.cells) (hs : slots + rm.slots ≤ R.slots)
    (k : ∀ (v : Option Value) (T' : State) (L : List Loc), Stand p l e R s m args below meth c T' (locs ++ L) (cells + rm.cells) (slots + rm.slots) → Qc v T'.heap L → Go p e below P (T'.setTop (mkF m pc' Ls (v.toList ++ rest)))) : Go p e below P (T.setTop (mkF m pc Ls st)) := by
  subst hp
  obtain ⟨v, _, ⟨T3, L3, k3, n3⟩, -, X3, ⟨Lc3, hQ3, l3, y3, z3⟩, st3⟩ := Jvm.LawKit.callS X hx (y := y) hown (mvT hZ w1) (mvT hZ w2) (mvT hZ w3) (mvT hZ w4) hy (backOf (W := W) hM hZ w4 w3 hf hl) (g := mkF m pc Ls st) rfl hsize (argsL := argsL) (rest := rest) (lenOf hpd hlen) hst hW (hb hby hd) (fun _ _ => ⟨has, eT, hc, hs⟩)
  dsimp only [Pt.U, Pt.locs, Pt.cells, Pt.slots] at X3 l3 y3 z3 st3 hQ3
  subst l3 y3 z3
  exact Go.st st3 (k v T3 Lc3 X3 hQ3)
theorem Go.callI {own : String} {index : Nat} {y : MethodName} {bytes : ByteArray} {maxL : Nat} {rm : Room} {W : Nat} {as : Array Value} {Qc : Option Value → Heap → List Loc → Prop} {argsL st : List Value} {ps : List FieldType} {rt : Option FieldType} {a : Addr} (X : Stand p l e R s m args below meth c T locs cells slots) (hx : p.tables.exec = Jvm.exec) (hby : c.code = by_) (hy1 : y.name = "<init>") (hZ : Z.Warmed39 s.vm) (hown : s.vm.findClass own = some m.cls)
    (w1 : (Jvm.Cond.methodLink own index y).before a0 Z = true) (w2 : (Jvm.Cond.instanceMethod y).before a0 Z = true) (w3 : (Jvm.Cond.initialized y.cls).before a0 Z = true) (w4 : (Jvm.Cond.code y bytes maxL none).before a0 Z = true) (hy : y.cls ≠ "java/lang/invoke/MethodHandle" ∧ y.cls ≠ "java/lang/invoke/VarHandle")
    (hM : Con l Z y bytes maxL none [] rm as h Qc) (eT : T.heap = h) (hf : rm.frames + 1 ≤ R.frames) (hl : W + (maxL + 11) + rm.locals ≤ R.locals) (hsize : Ls.size = c.maxLocals) (hpd : parseMethodDescriptor y.desc = some ⟨ps, rt⟩) (hlen : argsL.length = ps.length) (hst : st = argsL.reverse ++ .ref a :: rest) (has : (.ref a :: argsL).toArray = as) (hW : 0 + (rest.map fun v => v.category).sum ≤ W)
    (hd : decode by_ pc = .ok (.invokespecial index, 3)) (hp : pc + 3 = pc') (hc : cells + rm.cells ≤ R.cells) (hs : slots + rm.slots ≤ R.slots)
    (k : ∀ (v : Option Value) (T' : State) (L : List Loc), Stand p l e R s m args below meth c T' (locs ++ L) (cells + rm.cells) (slots + rm.slots) → Qc v T'.heap L → Go p e below P (T'.setTop (mkF m pc' Ls (v.toList ++ rest)))) : Go p e below P (T.setTop (mkF m pc Ls st)) := by
  subst hp
  obtain ⟨v, _, ⟨T3, L3, k3, n3⟩, -, X3, ⟨Lc3, hQ3, l3, y3, z3⟩, st3⟩ := X.specialBack hx (y := y) hy1 hown (mvT hZ w1) (mvT hZ w2) (mvT hZ w4) hy (backOf (W := W) hM hZ w4 w3 hf hl) (g := mkF m pc Ls st) rfl hsize (Steps.refl _) (a := a) (argsL := argsL) (rest := rest) (lenOf hpd hlen) hst hW (hb hby hd) (fun _ _ => ⟨has, eT, hc, hs⟩)
  dsimp only [Pt.U, Pt.locs, Pt.cells, Pt.slots] at X3 l3 y3 z3 st3 hQ3
  subst l3 y3 z3
  exact Go.via st3 (k v T3 Lc3 X3 hQ3)
theorem Go.callV {own C : String} {index : Nat} {y z : MethodName} {bytes : ByteArray} {maxL : Nat} {ret : Option FieldType} {rm : Room} {W : Nat} {as : Array Value} {Qc : Option Value → Heap → List Loc → Prop} {argsL st : List Value} {ps : List FieldType} {rt : Option FieldType} {a : Addr} (X : Stand p l e R s m args below meth c T locs cells slots) (hx : p.tables.exec = Jvm.exec) (hby : c.code = by_) (hZ : Z.Warmed39 s.vm) (hown : s.vm.findClass own = some m.cls)
    (w1 : (Jvm.Cond.methodLink own index y).before a0 Z = true) (w2 : (Jvm.Cond.declares y).before a0 Z = true) (hnf : NotFace s y) (w5 : (Jvm.Cond.selects C y z).before a0 Z = true) (w6 : (Jvm.Cond.instanceMethod z).before a0 Z = true) (w3 : (Jvm.Cond.initialized z.cls).before a0 Z = true) (w4 : (Jvm.Cond.code z bytes maxL ret).before a0 Z = true) (hy : y.cls ≠ "java/lang/invoke/MethodHandle" ∧ y.cls ≠ "java/lang/invoke/VarHandle")
    (hM : Con l Z z bytes maxL ret [] rm as h Qc) (eT : T.heap = h) (hE : Exa Z h a C) (hf : rm.frames + 1 ≤ R.frames) (hl : W + (maxL + 11) + rm.locals ≤ R.locals) (hsize : Ls.size = c.maxLocals) (hpd : parseMethodDescriptor y.desc = some ⟨ps, rt⟩) (hlen : argsL.length = ps.length) (hst : st = argsL.reverse ++ .ref a :: rest) (has : (.ref a :: argsL).toArray = as) (hW : 0 + (rest.map fun v => v.category).sum ≤ W)
    (hd : decode by_ pc = .ok (.invokevirtual index, 3)) (hp : pc + 3 = pc') (hc : cells + rm.cells ≤ R.cells) (hs : slots + rm.slots ≤ R.slots)
    (k : ∀ (v : Option Value) (T' : State) (L : List Loc), Stand p l e R s m args below meth c T' (locs ++ L) (cells + rm.cells) (slots + rm.slots) → Qc v T'.heap L → Go p e below P (T'.setTop (mkF m pc' Ls (v.toList ++ rest)))) : Go p e below P (T.setTop (mkF m pc Ls st)) := by
  subst hp
  obtain ⟨cq, kq, q4a, q4b, q4c⟩ := isOf (T := T) hZ eT hE
  obtain ⟨v, _, ⟨T3, L3, k3, n3⟩, -, X3, ⟨Lc3, hQ3, l3, y3, z3⟩, st3⟩ := X.virtualBack hx (y := y) (z := z) hown (mvT hZ w1) (mvT hZ w2) hnf (mvT hZ w5) (mvT hZ w6) hy (backOf (W := W) hM hZ w4 w3 hf hl) q4a q4c (g := mkF m pc Ls st) rfl hsize (Steps.refl _) (argsL := argsL) (rest := rest) (lenOf hpd hlen) hst hW (hb hby hd) (fun _ _ => ⟨has, eT, hc, hs⟩)
  dsimp only [Pt.U, Pt.locs, Pt.cells, Pt.slots] at X3 l3 y3 z3 st3 hQ3
  subst l3 y3 z3
  exact Go.via st3 (k v T3 Lc3 X3 hQ3)

theorem Go.nmI {x : Int32} (k : ∀ v : Int32, v = x → Go p e below P (T.setTop (mkF m pc Ls (.int v :: rest)))) : Go p e below P (T.setTop (mkF m pc Ls (.int x :: rest))) := k _ rfl
theorem Go.nmJ {x : Int64} (k : ∀ v : Int64, v = x → Go p e below P (T.setTop (mkF m pc Ls (.long v :: rest)))) : Go p e below P (T.setTop (mkF m pc Ls (.long x :: rest))) := k _ rfl
theorem Go.cut {α : Type} {F : α → State} {x : α} {S : State} (k : Go p e below P (F x)) (k2 : (∀ b, b = x → Go p e below P (F b)) → Go p e below P S) : Go p e below P S := k2 (fun b hb => hb ▸ k)
theorem Go.cutAll {α : Type} {F : α → State} {S : State} (k : ∀ b, Go p e below P (F b)) (k2 : (∀ b, Go p e below P (F b)) → Go p e below P S) : Go p e below P S := k2 k
theorem Go.loop {α : Type} {F : α → State} {I : α → Prop} {μ : α → Nat} (step : ∀ x, I x → (∀ y, I y → μ y < μ x → Go p e below P (F y)) → Go p e below P (F x)) (x : α) (hx : I x) : Go p e below P (F x) := by
  have key : ∀ (n : Nat) (x : α), μ x < n → I x → Go p e below P (F x) := by
    intro n
    induction n with
    | zero => intro x hn; exact absurd hn (Nat.not_lt_zero _)
    | succ n ih => intro x hn hi; exact step x hi (fun y hy hlt => ih y (by omega) hy)
  exact key _ x (Nat.lt_succ_self _) hx
/-- what a law leaves: true, and nothing that stood is written -/
def LQ (n0 : Nat) (v : Option Value) (h : Heap) (L : List Loc) : Prop := v = some (.int 1) ∧ Fr n0 L
end OwnGo
section OwnHeap
variable {p : Program} {l : Launch} {e : Env} {R : Room} {s : State} {m : MethodId} {args : Array Value} {below : List Frame} {meth : Method} {c : Code} {T : State} {locs : List Loc} {cells slots : Nat} {Z : State} {a0 : Array Value} {h h' : Heap} {Q : Option Value → Heap → List Loc → Prop} {P : Option Value → State → Prop} {K N : Nat} {by_ : ByteArray} {pc pc' : Nat} {Ls : Array Slot} {rest : List Value} {a b : Addr} {ty : FieldType} {z i : Int} {f g : Int → Value} {sl : Nat} {v : Value} {ws : List Addr}
/-- an array: its length z, what place i holds -/
def Ar (Z : State) (h : Heap) (a : Addr) (ty : FieldType) (z : Int) (f : Int → Value) : Prop := ∃ cl : Cell, Arr Z h a cl ty ∧ (cl.slots.size : Int) = z ∧ z < 2147483648 ∧ ∀ i : Nat, (i : Int) < z → cl.slots[i]? = some (f i)
theorem Ar.ext (F : Ar Z h a ty z f) (E : Ext h h') : Ar Z h' a ty z f := by obtain ⟨cl, A, r⟩ := F; exact ⟨cl, A.ext E, r⟩
theorem Ar.other (F : Ar Z h a ty z f) (W : Wr h h' b sl v) (q : a ≠ b) : Ar Z h' a ty z f := by obtain ⟨cl, A, r⟩ := F; exact ⟨cl, A.other W q, r⟩
theorem Ar.keep (F : Ar Z h a ty z f) (K : Keep h h' ws) (q : a ∉ ws) : Ar Z h' a ty z f := by obtain ⟨cl, A, r⟩ := F; exact ⟨cl, ⟨K.2.1 a cl A.1 q, A.2⟩, r⟩
theorem Ar.lt (F : Ar Z h a ty z f) : a < h.size := by obtain ⟨cl, A, -⟩ := F; exact A.lt
theorem Ar.congr (F : Ar Z h a ty z f) (q : ∀ i, 0 ≤ i → i < z → f i = g i) : Ar Z h a ty z g := by
  obtain ⟨cl, A, r1, r2, r3⟩ := F
  exact ⟨cl, A, r1, r2, fun i hi => by rw [r3 i hi, q i (by omega) hi]⟩
theorem Ar.bound (F : Ar Z h a ty z f) : 0 ≤ z ∧ z < 2147483648 := by obtain ⟨cl, A, r1, r2, -⟩ := F; omega
theorem Ar.set (F : Ar Z h a ty z f) (W : Wr h h' a i.toNat v) (hi : 0 ≤ i) : Ar Z h' a ty z (fun q => if q = i then v else f q) := by
  obtain ⟨cl, A, r1, r2, r3⟩ := F
  obtain ⟨cl2, w1, w2, w3, w4⟩ := W
  cases w1.symm.trans A.1
  refine ⟨_, A.same ⟨cl, A.1, w2, w3, w4⟩, by rw [sz_set]; exact r1, r2, fun k hk => ?_⟩
  by_cases e : (k : Int) = i
  · have e' : k = i.toNat := by omega
    subst e'
    simp only [Cell.setSlot, if_pos e]
    rw [Array.getElem?_setIfInBounds_self_of_lt w3]
  · show _ = some (if (k : Int) = i then v else f k)
    rw [if_neg e]
    simp only [Cell.setSlot]
    rw [Array.getElem?_setIfInBounds_ne (by omega)]
    exact r3 k hk
theorem Ar.new {cA : ClassId} {n : Int32} (A : Arr Z h a (newA cA ty n) ty) (q : n.toInt = z) (q0 : 0 ≤ z) : Ar Z h a ty z (fun _ => defaultValue ty) := by
  have hs : ((newA cA ty n).slots.size : Int) = z := by rw [sz_new]; simp only [Int32.toNatClampNeg]; omega
  refine ⟨_, A, hs, by have := n.toInt_lt; omega, fun i hi => ?_⟩
  have hlt : i < n.toNatClampNeg := by rw [sz_new] at hs; omega
  simp [newA, Array.getElem?_replicate, hlt]
theorem in_of {cl : Cell} {j : Int32} (r1 : (cl.slots.size : Int) = z) (hj : j.toInt = i) (h0 : 0 ≤ i) (h1 : i < z) : ¬ (j < 0 ∨ cl.slots.size ≤ j.toNatClampNeg) ∧ j.toNatClampNeg = i.toNat := by
  have e : j.toNatClampNeg = i.toNat := by simp only [Int32.toNatClampNeg, hj]
  refine ⟨fun q => ?_, e⟩
  rcases q with q | q
  · rw [Int32.lt_iff_toInt_lt, hj, show (0 : Int32).toInt = 0 from by decide] at q; omega
  · rw [e] at q; omega
theorem Go.alen {zv : Int32} (X : Stand p l e R s m args below meth c T locs cells slots) (hx : p.tables.exec = Jvm.exec) (hby : c.code = by_) (hZ : Z.Warmed39 s.vm) (eT : T.heap = h) (A : Ar Z h a ty z f) (hd : decode by_ pc = .ok (.arraylength, 1)) (hp : pc + 1 = pc') (hz : zv.toInt = z) (k : Go p e below P (T.setTop (mkF m pc' Ls (.int zv :: rest)))) : Go p e below P (T.setTop (mkF m pc Ls (.ref a :: rest))) := by
  subst hp
  obtain ⟨cl, A, r1, r2, -⟩ := A
  have e1 : cl.slots.size.toInt32 = zv := Int32.toInt_inj.mp (by rw [len_toInt (by omega), hz]; exact r1)
  exact Go.st (fun t k => X.arraylength hx (cell := cl) (by rw [eT]; exact A.1) (State.isArrayOf_alike hZ.alike A.2.1) (g := mkF m pc Ls (.ref a :: rest)) rfl rfl (hb hby hd) _ (by rw [e1]; exact k)) k
theorem Go.iaload {j : Int32} (X : Stand p l e R s m args below meth c T locs cells slots) (hx : p.tables.exec = Jvm.exec) (hby : c.code = by_) (hZ : Z.Warmed39 s.vm) (eT : T.heap = h) (A : Ar Z h a .int z f) (hd : decode by_ pc = .ok (.iaload, 1)) (hp : pc + 1 = pc') (hj : j.toInt = i) (h0 : 0 ≤ i) (h1 : i < z) (hv : f i = v) (k : Go p e below P (T.setTop (mkF m pc' Ls (v :: rest)))) : Go p e below P (T.setTop (mkF m pc Ls (.int j :: .ref a :: rest))) := by
  subst hp hv
  obtain ⟨cl, A, r1, r2, r3⟩ := A
  obtain ⟨q1, q2⟩ := in_of r1 hj h0 h1
  exact Go.st (fun t k => X.iaload hx (j := j) (v := f i) (by rw [eT]; exact A.1) (State.isArrayOf_alike hZ.alike A.2.1) A.2.2 q1 (by rw [q2, r3 _ (by omega)]; congr 2; omega) (g := mkF m pc Ls (.int j :: .ref a :: rest)) rfl rfl (hb hby hd) _ k) k
theorem Go.caload {j : Int32} (X : Stand p l e R s m args below meth c T locs cells slots) (hx : p.tables.exec = Jvm.exec) (hby : c.code = by_) (hZ : Z.Warmed39 s.vm) (eT : T.heap = h) (A : Ar Z h a .char z f) (hd : decode by_ pc = .ok (.caload, 1)) (hp : pc + 1 = pc') (hj : j.toInt = i) (h0 : 0 ≤ i) (h1 : i < z) (hv : f i = v) (k : Go p e below P (T.setTop (mkF m pc' Ls (v :: rest)))) : Go p e below P (T.setTop (mkF m pc Ls (.int j :: .ref a :: rest))) := by
  subst hp hv
  obtain ⟨cl, A, r1, r2, r3⟩ := A
  obtain ⟨q1, q2⟩ := in_of r1 hj h0 h1
  exact Go.st (fun t k => X.caload hx (j := j) (v := f i) (by rw [eT]; exact A.1) (State.isArrayOf_alike hZ.alike A.2.1) A.2.2 q1 (by rw [q2, r3 _ (by omega)]; congr 2; omega) (g := mkF m pc Ls (.int j :: .ref a :: rest)) rfl rfl (hb hby hd) _ k) k
theorem Go.baload {j : Int32} (X : Stand p l e R s m args below meth c T locs cells slots) (hx : p.tables.exec = Jvm.exec) (hby : c.code = by_) (hZ : Z.Warmed39 s.vm) (eT : T.heap = h) (A : Ar Z h a .byte z f) (hd : decode by_ pc = .ok (.baload, 1)) (hp : pc + 1 = pc') (hj : j.toInt = i) (h0 : 0 ≤ i) (h1 : i < z) (hv : f i = v) (k : Go p e below P (T.setTop (mkF m pc' Ls (v :: rest)))) : Go p e below P (T.setTop (mkF m pc Ls (.int j :: .ref a :: rest))) := by
  subst hp hv
  obtain ⟨cl, A, r1, r2, r3⟩ := A
  obtain ⟨q1, q2⟩ := in_of r1 hj h0 h1
  exact Go.st (fun t k => X.baloadBytes hx (j := j) (v := f i) (by rw [eT]; exact A.1) (State.isArrayOf_alike hZ.alike A.2.1) A.2.2 q1 (by rw [q2, r3 _ (by omega)]; congr 2; omega) (g := mkF m pc Ls (.int j :: .ref a :: rest)) rfl rfl (hb hby hd) _ k) k
theorem Go.laload {j : Int32} (X : Stand p l e R s m args below meth c T locs cells slots) (hx : p.tables.exec = Jvm.exec) (hby : c.code = by_) (hZ : Z.Warmed39 s.vm) (eT : T.heap = h) (A : Ar Z h a .long z f) (hd : decode by_ pc = .ok (.laload, 1)) (hp : pc + 1 = pc') (hj : j.toInt = i) (h0 : 0 ≤ i) (h1 : i < z) (hv : f i = v) (k : Go p e below P (T.setTop (mkF m pc' Ls (v :: rest)))) : Go p e below P (T.setTop (mkF m pc Ls (.int j :: .ref a :: rest))) := by
  subst hp hv
  obtain ⟨cl, A, r1, r2, r3⟩ := A
  obtain ⟨q1, q2⟩ := in_of r1 hj h0 h1
  exact Go.st (fun t k => X.laload hx (j := j) (v := f i) (by rw [eT]; exact A.1) (State.isArrayOf_alike hZ.alike A.2.1) A.2.2 q1 (by rw [q2, r3 _ (by omega)]; congr 2; omega) (g := mkF m pc Ls (.int j :: .ref a :: rest)) rfl rfl (hb hby hd) _ k) k
theorem Go.saload {j : Int32} (X : Stand p l e R s m args below meth c T locs cells slots) (hx : p.tables.exec = Jvm.exec) (hby : c.code = by_) (hZ : Z.Warmed39 s.vm) (eT : T.heap = h) (A : Ar Z h a .short z f) (hd : decode by_ pc = .ok (.saload, 1)) (hp : pc + 1 = pc') (hj : j.toInt = i) (h0 : 0 ≤ i) (h1 : i < z) (hv : f i = v) (k : Go p e below P (T.setTop (mkF m pc' Ls (v :: rest)))) : Go p e below P (T.setTop (mkF m pc Ls (.int j :: .ref a :: rest))) := by
  subst hp hv
  obtain ⟨cl, A, r1, r2, r3⟩ := A
  obtain ⟨q1, q2⟩ := in_of r1 hj h0 h1
  exact Go.st (fun t k => X.saload hx (j := j) (v := f i) (by rw [eT]; exact A.1) (State.isArrayOf_alike hZ.alike A.2.1) A.2.2 q1 (by rw [q2, r3 _ (by omega)]; congr 2; omega) (g := mkF m pc Ls (.int j :: .ref a :: rest)) rfl rfl (hb hby hd) _ k) k
theorem Go.aaload {j : Int32} (X : Stand p l e R s m args below meth c T locs cells slots) (hx : p.tables.exec = Jvm.exec) (hby : c.code = by_) (hZ : Z.Warmed39 s.vm) (eT : T.heap = h) (A : Ar Z h a ty z f) (hty : ty.isReference = true) (hd : decode by_ pc = .ok (.aaload, 1)) (hp : pc + 1 = pc') (hj : j.toInt = i) (h0 : 0 ≤ i) (h1 : i < z) (hv : f i = v) (k : Go p e below P (T.setTop (mkF m pc' Ls (v :: rest)))) : Go p e below P (T.setTop (mkF m pc Ls (.int j :: .ref a :: rest))) := by
  subst hp hv
  obtain ⟨cl, A, r1, r2, r3⟩ := A
  obtain ⟨q1, q2⟩ := in_of r1 hj h0 h1
  exact Go.st (fun t k => X.aaload hx (j := j) (v := f i) (by rw [eT]; exact A.1) (State.isArrayOf_alike hZ.alike A.2.1) hty A.2.2 q1 (by rw [q2, r3 _ (by omega)]; congr 2; omega) (g := mkF m pc Ls (.int j :: .ref a :: rest)) rfl rfl (hb hby hd) _ k) k
theorem Go.iastore {j : Int32} {x : Int32} (X : Stand p l e R s m args below meth c T locs cells slots) (hx : p.tables.exec = Jvm.exec) (hby : c.code = by_) (hZ : Z.Warmed39 s.vm) (eT : T.heap = h) (A : Ar Z h a .int z f) (hd : decode by_ pc = .ok (.iastore, 1)) (hp : pc + 1 = pc') (hj : j.toInt = i) (h0 : 0 ≤ i) (h1 : i < z)
    (k : ∀ (T' : State) (h' : Heap), Stand p l e R s m args below meth c T' (locs ++ [⟨a, i.toNat⟩]) cells slots → T'.heap = h' → Wr h h' a i.toNat (.int x) → Ar Z h' a .int z (fun q => if q = i then (.int x) else f q) → Go p e below P (T'.setTop (mkF m pc' Ls rest))) : Go p e below P (T.setTop (mkF m pc Ls (.int x :: .int j :: .ref a :: rest))) := by
  subst hp
  have A0 := A
  obtain ⟨cl, A, r1, r2, r3⟩ := A
  obtain ⟨q1, q2⟩ := in_of r1 hj h0 h1
  obtain ⟨T', h', X', e', W', st⟩ := stI X hx hZ eT A (j := j) q1 (g := mkF m pc Ls (.int x :: .int j :: .ref a :: rest)) rfl rfl (hb hby hd)
  rw [q2] at X' W'
  exact Go.st st (k T' h' X' e' W' (A0.set W' h0))
theorem Go.castore {j : Int32} {x : Int32} (X : Stand p l e R s m args below meth c T locs cells slots) (hx : p.tables.exec = Jvm.exec) (hby : c.code = by_) (hZ : Z.Warmed39 s.vm) (eT : T.heap = h) (A : Ar Z h a .char z f) (hd : decode by_ pc = .ok (.castore, 1)) (hp : pc + 1 = pc') (hj : j.toInt = i) (h0 : 0 ≤ i) (h1 : i < z)
    (k : ∀ (T' : State) (h' : Heap), Stand p l e R s m args below meth c T' (locs ++ [⟨a, i.toNat⟩]) cells slots → T'.heap = h' → Wr h h' a i.toNat (.int (nar .char x)) → Ar Z h' a .char z (fun q => if q = i then (.int (nar .char x)) else f q) → Go p e below P (T'.setTop (mkF m pc' Ls rest))) : Go p e below P (T.setTop (mkF m pc Ls (.int x :: .int j :: .ref a :: rest))) := by
  subst hp
  have A0 := A
  obtain ⟨cl, A, r1, r2, r3⟩ := A
  obtain ⟨q1, q2⟩ := in_of r1 hj h0 h1
  obtain ⟨T', h', X', e', W', st⟩ := stC X hx hZ eT A (j := j) q1 (g := mkF m pc Ls (.int x :: .int j :: .ref a :: rest)) rfl rfl (hb hby hd)
  rw [q2] at X' W'
  exact Go.st st (k T' h' X' e' W' (A0.set W' h0))
theorem Go.bastore {j : Int32} {x : Int32} (X : Stand p l e R s m args below meth c T locs cells slots) (hx : p.tables.exec = Jvm.exec) (hby : c.code = by_) (hZ : Z.Warmed39 s.vm) (eT : T.heap = h) (A : Ar Z h a .byte z f) (hd : decode by_ pc = .ok (.bastore, 1)) (hp : pc + 1 = pc') (hj : j.toInt = i) (h0 : 0 ≤ i) (h1 : i < z)
    (k : ∀ (T' : State) (h' : Heap), Stand p l e R s m args below meth c T' (locs ++ [⟨a, i.toNat⟩]) cells slots → T'.heap = h' → Wr h h' a i.toNat (.int (nar .byte x)) → Ar Z h' a .byte z (fun q => if q = i then (.int (nar .byte x)) else f q) → Go p e below P (T'.setTop (mkF m pc' Ls rest))) : Go p e below P (T.setTop (mkF m pc Ls (.int x :: .int j :: .ref a :: rest))) := by
  subst hp
  have A0 := A
  obtain ⟨cl, A, r1, r2, r3⟩ := A
  obtain ⟨q1, q2⟩ := in_of r1 hj h0 h1
  obtain ⟨T', h', X', e', W', st⟩ := stB X hx hZ eT A (j := j) q1 (g := mkF m pc Ls (.int x :: .int j :: .ref a :: rest)) rfl rfl (hb hby hd)
  rw [q2] at X' W'
  exact Go.st st (k T' h' X' e' W' (A0.set W' h0))
theorem Go.lastore {j : Int32} {x : Int64} (X : Stand p l e R s m args below meth c T locs cells slots) (hx : p.tables.exec = Jvm.exec) (hby : c.code = by_) (hZ : Z.Warmed39 s.vm) (eT : T.heap = h) (A : Ar Z h a .long z f) (hd : decode by_ pc = .ok (.lastore, 1)) (hp : pc + 1 = pc') (hj : j.toInt = i) (h0 : 0 ≤ i) (h1 : i < z)
    (k : ∀ (T' : State) (h' : Heap), Stand p l e R s m args below meth c T' (locs ++ [⟨a, i.toNat⟩]) cells slots → T'.heap = h' → Wr h h' a i.toNat (.long x) → Ar Z h' a .long z (fun q => if q = i then (.long x) else f q) → Go p e below P (T'.setTop (mkF m pc' Ls rest))) : Go p e below P (T.setTop (mkF m pc Ls (.long x :: .int j :: .ref a :: rest))) := by
  subst hp
  have A0 := A
  obtain ⟨cl, A, r1, r2, r3⟩ := A
  obtain ⟨q1, q2⟩ := in_of r1 hj h0 h1
  obtain ⟨T', h', X', e', W', st⟩ := stJ X hx hZ eT A (j := j) q1 (g := mkF m pc Ls (.long x :: .int j :: .ref a :: rest)) rfl rfl (hb hby hd)
  rw [q2] at X' W'
  exact Go.st st (k T' h' X' e' W' (A0.set W' h0))
theorem Go.aastore {j : Int32} (X : Stand p l e R s m args below meth c T locs cells slots) (hx : p.tables.exec = Jvm.exec) (hby : c.code = by_) (hZ : Z.Warmed39 s.vm) (eT : T.heap = h) (A : Ar Z h a ty z f) (hty : ty.isReference = true) (F : Sto Z h a v) (hd : decode by_ pc = .ok (.aastore, 1)) (hp : pc + 1 = pc') (hj : j.toInt = i) (h0 : 0 ≤ i) (h1 : i < z)
    (k : ∀ (T' : State) (h' : Heap), Stand p l e R s m args below meth c T' (locs ++ [⟨a, i.toNat⟩]) cells slots → T'.heap = h' → Wr h h' a i.toNat v → Ar Z h' a ty z (fun q => if q = i then v else f q) → Go p e below P (T'.setTop (mkF m pc' Ls rest))) : Go p e below P (T.setTop (mkF m pc Ls (v :: .int j :: .ref a :: rest))) := by
  subst hp
  have A0 := A
  obtain ⟨cl, A, r1, r2, r3⟩ := A
  obtain ⟨q1, q2⟩ := in_of r1 hj h0 h1
  obtain ⟨T', h', X', e', W', st⟩ := stR X hx hZ eT A (j := j) q1 hty F (g := mkF m pc Ls (v :: .int j :: .ref a :: rest)) rfl rfl (hb hby hd)
  rw [q2] at X' W'
  exact Go.st st (k T' h' X' e' W' (A0.set W' h0))
theorem Go.newarr {aty : ArrayType} {n : Int32} {cap : Nat} (X : Stand p l e R s m args below meth c T locs cells slots) (hx : p.tables.exec = Jvm.exec) (hby : c.code = by_) (hZ : Z.Warmed39 s.vm) (w : (Jvm.Cond.arrayClass (newarray.typeOf aty)).before a0 Z = true) (eT : T.heap = h) (hd : decode by_ pc = .ok (.newarray aty, 2)) (hp : pc + 2 = pc') (hz : n.toInt = z) (h0 : 0 ≤ z) (hcap : z ≤ cap) (hb0 : cap * 8 ≤ 536870912) (hc : cells + 1 ≤ R.cells) (hl : slots + cap ≤ R.slots)
    (k : ∀ (b : Addr) (T' : State) (h' : Heap), b = h.size → Stand p l e R s m args below meth c T' locs (cells + 1) (slots + cap) → T'.heap = h' → Ext h h' → Ar Z h' b (newarray.typeOf aty) z (fun _ => defaultValue (newarray.typeOf aty)) → Go p e below P (T'.setTop (mkF m pc' Ls (.ref b :: rest)))) : Go p e below P (T.setTop (mkF m pc Ls (.int n :: rest))) := by
  subst hp
  obtain ⟨T', h', cA, X', e', E', A', st⟩ := newP X hx hZ w eT (g := mkF m pc Ls (.int n :: rest)) rfl (hb hby hd) rfl (by rw [Int32.lt_iff_toInt_lt, hz, show (0 : Int32).toInt = 0 from by decide]; omega) (cap := cap) (by simp only [Int32.toNatClampNeg, hz]; omega) hb0 hc hl
  exact Go.st st (k _ T' h' rfl X' e' E' (Ar.new A' hz h0))
theorem Go.new_ {own C : String} {index n : Nat} (X : Stand p l e R s m args below meth c T locs cells slots) (hx : p.tables.exec = Jvm.exec) (hby : c.code = by_) (hZ : Z.Warmed39 s.vm) (hown : s.vm.findClass own = some m.cls) (w : (Jvm.Cond.classLink own index C).before a0 Z = true) (wi : (Jvm.Cond.instantiable C n).before a0 Z = true) (wz : (Jvm.Cond.initialized C).before a0 Z = true) (eT : T.heap = h) (hd : decode by_ pc = .ok (.new index, 3)) (hp : pc + 3 = pc') (hc : cells + 1 ≤ R.cells) (hl : slots + n ≤ R.slots)
    (k : ∀ (b : Addr) (T' : State) (h' : Heap), b = h.size → Stand p l e R s m args below meth c T' locs (cells + 1) (slots + n) → T'.heap = h' → Ext h h' → Exa Z h' b C → (∀ {O nm d : String} {ty : FieldType}, Laid Z a0 C O nm d → parseFieldDescriptor d = some ty → Fld Z h' b O nm d (defaultValue ty)) → Go p e below P (T'.setTop (mkF m pc' Ls (.ref b :: rest)))) : Go p e below P (T.setTop (mkF m pc Ls rest)) := by
  subst hp
  obtain ⟨T', h', X', e', E', A', D', -, st⟩ := newO X hx hZ hown w wi wz eT (g := mkF m pc Ls rest) rfl (hb hby hd) hc hl
  exact Go.st st (k _ T' h' rfl X' e' E' A' D')
theorem Go.getF {own R0 O n d : String} {index : Nat} (X : Stand p l e R s m args below meth c T locs cells slots) (hx : p.tables.exec = Jvm.exec) (hby : c.code = by_) (hZ : Z.Warmed39 s.vm) (hown : s.vm.findClass own = some m.cls) (w : (Jvm.Cond.fieldLink own index R0 n d).before a0 Z = true) (via : Via Z R0 O n d) (eT : T.heap = h) (F : Fld Z h a O n d v) (hd : decode by_ pc = .ok (.getfield index, 3)) (hp : pc + 3 = pc')
    (k : ∀ T' : State, Stand p l e R s m args below meth c T' locs cells slots → T'.heap = h → Go p e below P (T'.setTop (mkF m pc' Ls (v :: rest)))) : Go p e below P (T.setTop (mkF m pc Ls (.ref a :: rest))) := by
  subst hp
  obtain ⟨T', X', e', st⟩ := Jvm.RoadKit.getF X hx hZ hown (host := "") (Or.inl w) via eT F (g := mkF m pc Ls (.ref a :: rest)) rfl rfl (hb hby hd)
  exact Go.st st (k T' X' e')
theorem Go.getSt {own R0 O n d : String} {index : Nat} (X : Stand p l e R s m args below meth c T locs cells slots) (hx : p.tables.exec = Jvm.exec) (hby : c.code = by_) (hZ : Z.Warmed39 s.vm) (hown : s.vm.findClass own = some m.cls) (w : (Jvm.Cond.fieldLink own index R0 n d).before a0 Z = true) (via : Via Z R0 O n d) (eT : T.heap = h) (F : Sta Z h O n d v) (hd : decode by_ pc = .ok (.getstatic index, 3)) (hp : pc + 3 = pc')
    (k : ∀ T' : State, Stand p l e R s m args below meth c T' locs cells slots → T'.heap = h → Go p e below P (T'.setTop (mkF m pc' Ls (v :: rest)))) : Go p e below P (T.setTop (mkF m pc Ls rest)) := by
  subst hp
  obtain ⟨T', X', e', st⟩ := Jvm.RoadKit.getS X hx hZ (host := "") hown w via eT F (g := mkF m pc Ls rest) rfl (hb hby hd)
  exact Go.st st (k T' X' e')
theorem Go.putF {own R0 O n d C : String} {index kk : Nat} {old : Value} (X : Stand p l e R s m args below meth c T locs cells slots) (hx : p.tables.exec = Jvm.exec) (hby : c.code = by_) (hZ : Z.Warmed39 s.vm) (hown : s.vm.findClass own = some m.cls) (w : (Jvm.Cond.fieldLink own index R0 n d).before a0 Z = true) (via : Via Z R0 O n d) (eT : T.heap = h) (F : Fld Z h a O n d old) (E : Exa Z h a C) (L : (Jvm.Cond.lays C O n d).before a0 Z = true ∨ ((Jvm.Cond.laysFinal C O n d).before a0 Z = true ∧ own = O ∧ meth.name = "<init>")) (wi : (Jvm.Cond.instantiable C kk).before a0 Z = true)
    (hty : parseFieldDescriptor d = some ty) (hn : narrow ty v = v) (hf : fits ty v = true) (hd : decode by_ pc = .ok (.putfield index, 3)) (hp : pc + 3 = pc')
    (k : ∀ (T' : State) (h' : Heap), Stand p l e R s m args below meth c T' (locs ++ [⟨a, slotOf Z O n d⟩]) cells slots → T'.heap = h' → Wr h h' a (slotOf Z O n d) v → Go p e below P (T'.setTop (mkF m pc' Ls rest))) : Go p e below P (T.setTop (mkF m pc Ls (v :: .ref a :: rest))) := by
  subst hp
  obtain ⟨T', h', X', e', W', st⟩ := Jvm.RoadKit.putF X hx hZ hown (host := "") (Or.inl w) via eT F E L wi hty hn hf (g := mkF m pc Ls (v :: .ref a :: rest)) rfl rfl (hb hby hd)
  exact Go.st st (k T' h' X' e' W')
theorem Go.initO {own : String} {idx W : Nat} (X : Stand p l e R s m args below meth c T locs cells slots) (hx : p.tables.exec = Jvm.exec) (hby : c.code = by_) (hZ : Z.Warmed39 s.vm) (hown : s.vm.findClass own = some m.cls) (w1 : (Jvm.Cond.methodLink own idx Lib.objectInit).before a0 Z = true) (w2 : (Jvm.Cond.instanceMethod Lib.objectInit).before a0 Z = true) (w3 : (Jvm.Cond.code Lib.objectInit ⟨#[0xb1]⟩ 1 none).before a0 Z = true) (eT : T.heap = h) (hsize : Ls.size = c.maxLocals) (hd : decode by_ pc = .ok (.invokespecial idx, 3)) (hp : pc + 3 = pc') (hf : 1 ≤ R.frames) (hW : 0 + (rest.map fun v => v.category).sum ≤ W) (hl : W + 12 ≤ R.locals)
    (k : ∀ T' : State, Stand p l e R s m args below meth c T' locs cells slots → T'.heap = h → Go p e below P (T'.setTop (mkF m pc' Ls rest))) : Go p e below P (T.setTop (mkF m pc Ls (.ref a :: rest))) := by
  subst hp
  obtain ⟨T', X', e', st⟩ := Jvm.RoadKit.initO X hx hZ hown w1 w2 w3 eT (g := mkF m pc Ls (.ref a :: rest)) rfl hsize rfl (hb hby hd) hf (W := W) hW hl
  exact Go.st st (k T' X' e')
theorem Fr.one {n : Nat} (q : n ≤ a) : Fr n [⟨a, sl⟩] := fun y hy => by cases List.mem_singleton.mp hy; exact q
end OwnHeap

end Jvm.RoadKit
namespace Jvm.Pilot.@@N@@
open Jvm Jvm.ClassFile Sem Op Lib Jvm.Free Jvm.Stand Jvm.LawKit Jvm.RoadKit Bundle Jvm.Pilot.@@N@@.Jvm.D
def own_max (x y : Int32) : Int32 := if x < y then y else x
def own_min (x y : Int32) : Int32 := if y < x then y else x
theorem own_0 : (0 : Int32).toInt = 0 := by decide
theorem own_1 : (1 : Int32).toInt = 1 := by decide
theorem own_2 : (2 : Int32).toInt = 2 := by decide
theorem own_b8 (x : Int32) : nar .byte (x.toInt8.toInt32) = x.toInt8.toInt32 := by
  show (x.toInt8.toInt32).toInt8.toInt32 = _
  rw [Int8.toInt8_toInt32]
def own_ex (q : Int) (t : Int32) : Int32 := if q = 0 then 13 else if q = 1 then 10 else t
theorem own_exn (q : Int) (t : Int32) (ht : nar .byte t = t) : nar .byte (own_ex q t) = own_ex q t := by
  unfold own_ex; repeat' split
  all_goals first | exact ht | rfl
theorem own_toIntS (i : Int32) (h : i.toInt < 2147483647) : (i + 1).toInt = i.toInt + 1 := by
  have q1 := c_iadd i 1; have q2 := rng32 (i + 1); have q3 := rng32 i; rw [own_1] at q1; omega
theorem own_sz (x : Int32) : 2 ≤ (own_max 2 (x &&& 2147483647)).toInt := by
  unfold own_max
  split
  · rename_i h; rw [Int32.lt_iff_toInt_lt, own_2] at h; omega
  · exact Int.le_of_eq own_2.symm
theorem own_ln (x s : Int32) (hs : 2 ≤ s.toInt) : 0 ≤ (own_min (x &&& 15) s).toInt ∧ (own_min (x &&& 15) s).toInt ≤ 15 ∧ (own_min (x &&& 15) s).toInt ≤ s.toInt := by
  have e := c_mask x 15 4 (by decide) (by decide)
  unfold own_min
  split
  · rename_i h; rw [Int32.lt_iff_toInt_lt] at h; omega
  · rename_i h; rw [Int32.lt_iff_toInt_lt] at h; omega
theorem own_span (s n : Int32) (hs : 2 ≤ s.toInt) (hn : 0 ≤ n.toInt ∧ n.toInt ≤ s.toInt) : (s.toInt64 - n.toInt64 + 1).toInt = s.toInt - n.toInt + 1 := by
  have r1 := rng32 s
  have a1 := c_lsub s.toInt64 n.toInt64
  have a2 := c_ladd (s.toInt64 - n.toInt64) 1
  rw [c_i2l, c_i2l] at a1
  rw [show (1 : Int64).toInt = 1 by decide] at a2
  have r2 := rng64 (s.toInt64 - n.toInt64)
  have r3 := rng64 (s.toInt64 - n.toInt64 + 1)
  omega
theorem own_spn0 (s n : Int32) (hs : 2 ≤ s.toInt) (hn : 0 ≤ n.toInt ∧ n.toInt ≤ s.toInt) : s.toInt64 - n.toInt64 + 1 ≠ 0 := fun q => by
  have e := own_span s n hs hn
  rw [q, show (0 : Int64).toInt = 0 by decide] at e
  omega
theorem own_off (o s n : Int32) (hs : 2 ≤ s.toInt) (hn : 0 ≤ n.toInt ∧ n.toInt ≤ s.toInt) : 0 ≤ (((o.toInt64 &&& 2147483647) - ((o.toInt64 &&& 2147483647) / (s.toInt64 - n.toInt64 + 1)) * (s.toInt64 - n.toInt64 + 1)).toInt32).toInt ∧ (((o.toInt64 &&& 2147483647) - ((o.toInt64 &&& 2147483647) / (s.toInt64 - n.toInt64 + 1)) * (s.toInt64 - n.toInt64 + 1)).toInt32).toInt + n.toInt ≤ s.toInt := by
  have e := own_span s n hs hn
  have r1 := rng32 s
  have m := c_maskL o.toInt64 2147483647 31 (by decide) (by decide)
  have q := (c_lrem (o.toInt64 &&& 2147483647) (s.toInt64 - n.toInt64 + 1) _ e).1 (by omega)
  have p1 : 0 ≤ (o.toInt64 &&& 2147483647).toInt % (s.toInt - n.toInt + 1) := Int.emod_nonneg _ (by omega)
  have p2 : (o.toInt64 &&& 2147483647).toInt % (s.toInt - n.toInt + 1) < s.toInt - n.toInt + 1 := Int.emod_lt_of_pos _ (by omega)
  have l := c_l2i ((o.toInt64 &&& 2147483647) - ((o.toInt64 &&& 2147483647) / (s.toInt64 - n.toInt64 + 1)) * (s.toInt64 - n.toInt64 + 1))
  have r2 := rng32 (((o.toInt64 &&& 2147483647) - ((o.toInt64 &&& 2147483647) / (s.toInt64 - n.toInt64 + 1)) * (s.toInt64 - n.toInt64 + 1)).toInt32)
  rw [q] at l
  generalize (o.toInt64 &&& 2147483647).toInt % (s.toInt - n.toInt + 1) = P at *
  omega
theorem own_idx (k n : Int32) (hn : 0 < n.toInt) : 0 ≤ ((k &&& 2147483647) % n).toInt ∧ ((k &&& 2147483647) % n).toInt < n.toInt := by
  have e := c_mask k 2147483647 31 (by decide) (by decide)
  have q := (c_iremV (k &&& 2147483647) n).1 (by omega) hn
  omega
theorem own_char (c : Int32) : ((c &&& 255).toUInt32.toUInt16.toUInt32.toInt32) = c &&& 255 := by
  have e := c_mask c 255 8 (by decide) (by decide)
  have q := c_i2c (c &&& 255)
  exact Int32.toInt_inj.mp (by omega)
theorem d1_0 : decode jdk_29_method_65_code 0 = .ok (.iload_n 0, 1) := by decide +kernel
theorem d1_1 : decode jdk_29_method_65_code 1 = .ok (.iload_n 1, 1) := by decide +kernel
theorem d1_2 : decode jdk_29_method_65_code 2 = .ok (.if_icmp .lt 7, 3) := by decide +kernel
theorem d1_5 : decode jdk_29_method_65_code 5 = .ok (.iload_n 0, 1) := by decide +kernel
theorem d1_6 : decode jdk_29_method_65_code 6 = .ok (.goto 4, 3) := by decide +kernel
theorem d1_9 : decode jdk_29_method_65_code 9 = .ok (.iload_n 1, 1) := by decide +kernel
theorem d1_10 : decode jdk_29_method_65_code 10 = .ok (.ireturn, 1) := by decide +kernel
theorem ef_1 (m : MethodId) (x0 : Int32) (x1 : Int32) : entryFrame m #[(.int x0), (.int x1)] 2 = mkF m 0 #[.val (.int x0), .val (.int x1)] [] := by first | (simp [entryFrame, mkF, argsToLocals, Value.category]; done) | rfl
set_option maxRecDepth 65536 in
set_option maxHeartbeats 40000000 in
theorem rmX (l : Launch) (Z : State) (a0 : Array Value) (hw : ∀ d ∈ tables_1, d.before a0 Z = true) (x0 : Int32) (x1 : Int32) (h0 : Heap) :
    Con l Z (⟨"java/lang/Math", "max", "(II)I"⟩ : MethodName) jdk_29_method_65_code 2 (some .int) [] ({ frames := 0, cells := 0, slots := 0, locals := 0 } : Room) #[(.int x0), (.int x1)] h0 (PQ (some (.int (own_max x0 x1))) h0) := by
  refine Con.of (Jvm.Free.JP.mathPlain rfl (by decide +kernel)) ?_
  intro p e s m below meth c s₁ hx hby hml hown hnm hret hlk hZ X0 e0
  refine Go.cast (ef_1 m x0 x1) ?_
  replace hown : s.vm.findClass "java/lang/Math" = some m.cls := hown
  refine Go.iloadN (pc' := 1) X0 hx hby d1_0 rfl rfl ?_
  refine Go.iloadN (pc' := 2) X0 hx hby d1_1 rfl rfl ?_
  refine Go.icmp (pc' := 9) (pn := 5) X0 hx hby d1_2 (by decide) (by decide) rfl (fun (c1 : x0 < x1) => ?_) (fun (c1 : ¬ (x0 < x1)) => ?_)
  ·
    refine Go.iloadN (pc' := 10) X0 hx hby d1_9 rfl rfl ?_
    exact Go.retI X0 hx hby hlk hret d1_10 (by decide) (by decide) ⟨by simp [own_max, c1], rfl, e0⟩
  ·
    refine Go.iloadN (pc' := 6) X0 hx hby d1_5 rfl rfl ?_
    refine Go.goto (pc' := 10) X0 hx hby d1_6 (by decide) (by decide) ?_
    exact Go.retI X0 hx hby hlk hret d1_10 (by decide) (by decide) ⟨by simp [own_max, c1], rfl, e0⟩
theorem d2_0 : decode jdk_29_method_69_code 0 = .ok (.iload_n 0, 1) := by decide +kernel
theorem d2_1 : decode jdk_29_method_69_code 1 = .ok (.iload_n 1, 1) := by decide +kernel
theorem d2_2 : decode jdk_29_method_69_code 2 = .ok (.if_icmp .gt 7, 3) := by decide +kernel
theorem d2_5 : decode jdk_29_method_69_code 5 = .ok (.iload_n 0, 1) := by decide +kernel
theorem d2_6 : decode jdk_29_method_69_code 6 = .ok (.goto 4, 3) := by decide +kernel
theorem d2_9 : decode jdk_29_method_69_code 9 = .ok (.iload_n 1, 1) := by decide +kernel
theorem d2_10 : decode jdk_29_method_69_code 10 = .ok (.ireturn, 1) := by decide +kernel
theorem ef_2 (m : MethodId) (x0 : Int32) (x1 : Int32) : entryFrame m #[(.int x0), (.int x1)] 2 = mkF m 0 #[.val (.int x0), .val (.int x1)] [] := by first | (simp [entryFrame, mkF, argsToLocals, Value.category]; done) | rfl
set_option maxRecDepth 65536 in
set_option maxHeartbeats 40000000 in
theorem rmN (l : Launch) (Z : State) (a0 : Array Value) (hw : ∀ d ∈ tables_1, d.before a0 Z = true) (x0 : Int32) (x1 : Int32) (h0 : Heap) :
    Con l Z (⟨"java/lang/Math", "min", "(II)I"⟩ : MethodName) jdk_29_method_69_code 2 (some .int) [] ({ frames := 0, cells := 0, slots := 0, locals := 0 } : Room) #[(.int x0), (.int x1)] h0 (PQ (some (.int (own_min x0 x1))) h0) := by
  refine Con.of (Jvm.Free.JP.mathPlain rfl (by decide +kernel)) ?_
  intro p e s m below meth c s₁ hx hby hml hown hnm hret hlk hZ X0 e0
  refine Go.cast (ef_2 m x0 x1) ?_
  replace hown : s.vm.findClass "java/lang/Math" = some m.cls := hown
  refine Go.iloadN (pc' := 1) X0 hx hby d2_0 rfl rfl ?_
  refine Go.iloadN (pc' := 2) X0 hx hby d2_1 rfl rfl ?_
  refine Go.icmp (pc' := 9) (pn := 5) X0 hx hby d2_2 (by decide) (by decide) rfl (fun (c1 : x1 < x0) => ?_) (fun (c1 : ¬ (x1 < x0)) => ?_)
  ·
    refine Go.iloadN (pc' := 10) X0 hx hby d2_9 rfl rfl ?_
    exact Go.retI X0 hx hby hlk hret d2_10 (by decide) (by decide) ⟨by simp [own_min, c1], rfl, e0⟩
  ·
    refine Go.iloadN (pc' := 6) X0 hx hby d2_5 rfl rfl ?_
    refine Go.goto (pc' := 10) X0 hx hby d2_6 (by decide) (by decide) ?_
    exact Go.retI X0 hx hby hlk hret d2_10 (by decide) (by decide) ⟨by simp [own_min, c1], rfl, e0⟩
theorem d7_0 : decode method_2_code 0 = .ok (.iload_n 0, 1) := by decide +kernel
theorem d7_1 : decode method_2_code 1 = .ok (.ifCond .ne 6, 3) := by decide +kernel
theorem d7_4 : decode method_2_code 4 = .ok (.bipush 13, 2) := by decide +kernel
theorem d7_6 : decode method_2_code 6 = .ok (.ireturn, 1) := by decide +kernel
theorem d7_7 : decode method_2_code 7 = .ok (.iload_n 0, 1) := by decide +kernel
theorem d7_8 : decode method_2_code 8 = .ok (.iconst 1, 1) := by decide +kernel
theorem d7_9 : decode method_2_code 9 = .ok (.if_icmp .ne 6, 3) := by decide +kernel
theorem d7_12 : decode method_2_code 12 = .ok (.bipush 10, 2) := by decide +kernel
theorem d7_14 : decode method_2_code 14 = .ok (.ireturn, 1) := by decide +kernel
theorem d7_15 : decode method_2_code 15 = .ok (.iload_n 1, 1) := by decide +kernel
theorem d7_16 : decode method_2_code 16 = .ok (.i2b, 1) := by decide +kernel
theorem d7_17 : decode method_2_code 17 = .ok (.ireturn, 1) := by decide +kernel
theorem ef_7 (m : MethodId) (x0 : Int32) (x1 : Int32) : entryFrame m #[(.int x0), (.int x1)] 2 = mkF m 0 #[.val (.int x0), .val (.int x1)] [] := by first | (simp [entryFrame, mkF, argsToLocals, Value.category]; done) | rfl
theorem pn_FilledEntityReadPinLaw : plainName "com/example/vellum_channels/vellumchannels/tool/FilledEntityReadPinLaw" = true := by first | (simp [plainName, overriddenIn]; done) | decide +kernel
set_option maxRecDepth 65536 in
set_option maxHeartbeats 40000000 in
theorem rmE (l : Launch) (Z : State) (a0 : Array Value) (hw : ∀ d ∈ tables_1, d.before a0 Z = true) (x0 : Int32) (x1 : Int32) (h0 : Heap) :
    Con l Z (⟨"com/example/vellum_channels/vellumchannels/tool/FilledEntityReadPinLaw", "expected", "(IC)B"⟩ : MethodName) method_2_code 2 (some .byte) [] ({ frames := 0, cells := 0, slots := 0, locals := 0 } : Room) #[(.int x0), (.int x1)] h0 (PQ (some (.int (own_ex x0.toInt x1.toInt8.toInt32))) h0) := by
  refine Con.of (plainFor_of_name pn_FilledEntityReadPinLaw) ?_
  intro p e s m below meth c s₁ hx hby hml hown hnm hret hlk hZ X0 e0
  refine Go.cast (ef_7 m x0 x1) ?_
  replace hown : s.vm.findClass "com/example/vellum_channels/vellumchannels/tool/FilledEntityReadPinLaw" = some m.cls := hown
  refine Go.iloadN (pc' := 1) X0 hx hby d7_0 rfl rfl ?_
  refine Go.if_ (pc' := 7) (pn := 4) X0 hx hby d7_1 (by decide) (by decide) rfl (fun (c1 : x0 ≠ 0) => ?_) (fun (c1 : ¬ (x0 ≠ 0)) => ?_)
  ·
    refine Go.iloadN (pc' := 8) X0 hx hby d7_7 rfl rfl ?_
    refine Go.iconst (pc' := 9) X0 hx hby d7_8 rfl (v := (1 : Int32)) (by decide) ?_
    refine Go.icmp (pc' := 15) (pn := 12) X0 hx hby d7_9 (by decide) (by decide) rfl (fun (c2 : x0 ≠ (1 : Int32)) => ?_) (fun (c2 : ¬ (x0 ≠ (1 : Int32))) => ?_)
    ·
      refine Go.iloadN (pc' := 16) X0 hx hby d7_15 rfl rfl ?_
      refine Go.i2b (pc' := 17) X0 hx hby d7_16 rfl ?_
      have g : own_ex x0.toInt x1.toInt8.toInt32 = x1.toInt8.toInt32 := by
        simp only [own_ex]; simp only [← own_0, ← own_1, Int32.toInt_inj]; simp [own_0, own_1, c1, c2]
      exact Go.retZ X0 hx hby hlk hret (by simp) d7_17 (by decide) (by decide) ⟨congrArg (fun q => some (Value.int q)) ((congrArg (nar .byte) g.symm).trans (own_exn _ _ (own_b8 _))), rfl, e0⟩
    ·
      refine Go.bipush (pc' := 14) X0 hx hby d7_12 rfl (v := (10 : Int32)) (by decide) ?_
      have g : own_ex x0.toInt x1.toInt8.toInt32 = (10 : Int32) := by
        simp only [own_ex]; simp only [← own_0, ← own_1, Int32.toInt_inj]; simp [own_0, own_1, c1, c2]
      exact Go.retZ X0 hx hby hlk hret (by simp) d7_14 (by decide) (by decide) ⟨congrArg (fun q => some (Value.int q)) ((congrArg (nar .byte) g.symm).trans (own_exn _ _ (own_b8 _))), rfl, e0⟩
  ·
    refine Go.bipush (pc' := 6) X0 hx hby d7_4 rfl (v := (13 : Int32)) (by decide) ?_
    have g : own_ex x0.toInt x1.toInt8.toInt32 = (13 : Int32) := by
      simp only [own_ex]; simp only [← own_0, ← own_1, Int32.toInt_inj]; simp [own_0, own_1, c1]
    exact Go.retZ X0 hx hby hlk hret (by simp) d7_6 (by decide) (by decide) ⟨congrArg (fun q => some (Value.int q)) ((congrArg (nar .byte) g.symm).trans (own_exn _ _ (own_b8 _))), rfl, e0⟩
theorem d3_0 : decode prog_39_method_1_code 0 = .ok (.aload_n 0, 1) := by decide +kernel
theorem d3_1 : decode prog_39_method_1_code 1 = .ok (.invokespecial 1, 3) := by decide +kernel
theorem d3_4 : decode prog_39_method_1_code 4 = .ok (.iload_n 1, 1) := by decide +kernel
theorem d3_5 : decode prog_39_method_1_code 5 = .ok (.iconst 2, 1) := by decide +kernel
theorem d3_6 : decode prog_39_method_1_code 6 = .ok (.if_icmp .ge 13, 3) := by decide +kernel
theorem d3_9 : decode prog_39_method_1_code 9 = .ok (.new 9, 3) := by decide +kernel
theorem d3_12 : decode prog_39_method_1_code 12 = .ok (.dup, 1) := by decide +kernel
theorem d3_13 : decode prog_39_method_1_code 13 = .ok (.ldc 11, 2) := by decide +kernel
theorem d3_15 : decode prog_39_method_1_code 15 = .ok (.invokespecial 13, 3) := by decide +kernel
theorem d3_18 : decode prog_39_method_1_code 18 = .ok (.athrow, 1) := by decide +kernel
theorem d3_19 : decode prog_39_method_1_code 19 = .ok (.aload_n 0, 1) := by decide +kernel
theorem d3_20 : decode prog_39_method_1_code 20 = .ok (.iload_n 1, 1) := by decide +kernel
theorem d3_21 : decode prog_39_method_1_code 21 = .ok (.putfield 16, 3) := by decide +kernel
theorem d3_24 : decode prog_39_method_1_code 24 = .ok (.aload_n 0, 1) := by decide +kernel
theorem d3_25 : decode prog_39_method_1_code 25 = .ok (.iload_n 2, 1) := by decide +kernel
theorem d3_26 : decode prog_39_method_1_code 26 = .ok (.i2b, 1) := by decide +kernel
theorem d3_27 : decode prog_39_method_1_code 27 = .ok (.putfield 20, 3) := by decide +kernel
theorem d3_30 : decode prog_39_method_1_code 30 = .ok (.return_, 1) := by decide +kernel
theorem ef_3 (m : MethodId) (x0 : Addr) (x1 : Int32) (x2 : Int32) : entryFrame m #[(.ref x0), (.int x1), (.int x2)] 3 = mkF m 0 #[.val (.ref x0), .val (.int x1), .val (.int x2)] [] := by first | (simp [entryFrame, mkF, argsToLocals, Value.category]; done) | rfl
theorem pn_FilledEntity : plainName "com/example/vellum_channels/vellumchannels/tool/FilledEntity" = true := by first | (simp [plainName, overriddenIn]; done) | decide +kernel
set_option maxRecDepth 65536 in
set_option maxHeartbeats 40000000 in
theorem rmI (l : Launch) (Z : State) (a0 : Array Value) (hw : ∀ d ∈ tables_1, d.before a0 Z = true) (a : Addr) (x1 : Int32) (x2 : Int32) (h0 : Heap) (n0 : Nat) (ga : n0 ≤ a) (Z0 : n0 ≤ h0.size) (E0 : Exa Z h0 a "com/example/vellum_channels/vellumchannels/tool/FilledEntity") (F1 : Fld Z h0 a "com/example/vellum_channels/vellumchannels/tool/FilledEntity" "size" "I" (.int 0)) (F2 : Fld Z h0 a "com/example/vellum_channels/vellumchannels/tool/FilledEntity" "letter" "B" (.int 0)) (ok : 2 ≤ x1.toInt) :
    Con l Z (⟨"com/example/vellum_channels/vellumchannels/tool/FilledEntity", "<init>", "(IC)V"⟩ : MethodName) prog_39_method_1_code 3 none [] ({ frames := 1, cells := 0, slots := 0, locals := 12 } : Room) #[(.ref a), (.int x1), (.int x2)] h0 (fun v h L => v = none ∧ Fr n0 L ∧ Keep h0 h [a] ∧ Exa Z h a "com/example/vellum_channels/vellumchannels/tool/FilledEntity" ∧ Fld Z h a "com/example/vellum_channels/vellumchannels/tool/FilledEntity" "letter" "B" (.int x2.toInt8.toInt32)) := by
  refine Con.of (plainFor_of_name pn_FilledEntity) ?_
  intro p e s m below meth c s₁ hx hby hml hown hnm hret hlk hZ X0 e0
  refine Go.cast (ef_3 m a x1 x2) ?_
  replace hown : s.vm.findClass "com/example/vellum_channels/vellumchannels/tool/FilledEntity" = some m.cls := hown
  refine Go.aloadN (pc' := 1) X0 hx hby d3_0 rfl rfl rfl ?_
  refine Go.initO (pc' := 4) (W := 0) X0 hx hby hZ hown (hw _ (List.mem_of_getElem? (i := 15) rfl)) (hw _ (List.mem_of_getElem? (i := 16) rfl)) (hw _ (List.mem_of_getElem? (i := 17) rfl)) e0 (by rw [hml]; rfl) d3_1 rfl (by decide) (Nat.le_of_eq rfl) (by decide) ?_
  intro T1 X2 e3
  refine Go.iloadN (pc' := 5) X2 hx hby d3_4 rfl rfl ?_
  refine Go.iconst (pc' := 6) X2 hx hby d3_5 rfl (v := (2 : Int32)) (by decide) ?_
  refine Go.icmpY (pc' := 19) X2 hx hby d3_6 (by decide) (by decide) (show (2 : Int32) ≤ x1 from by rw [Int32.le_iff_toInt_le, own_2]; exact ok) ?_
  refine Go.aloadN (pc' := 20) X2 hx hby d3_19 rfl rfl rfl ?_
  refine Go.iloadN (pc' := 21) X2 hx hby d3_20 rfl rfl ?_
  refine Go.putF (pc' := 24) (ty := .int) X2 hx hby hZ hown (hw _ (List.mem_of_getElem? (i := 18) rfl)) Via.refl e3 F1 E0 (Or.inr ⟨(hw _ (List.mem_of_getElem? (i := 19) rfl)), rfl, hnm⟩) (hw _ (List.mem_of_getElem? (i := 10) rfl)) (by decide) rfl rfl d3_21 rfl ?_
  intro T4 h5 X6 e7 W8
  have f9 : Exa Z h5 a "com/example/vellum_channels/vellumchannels/tool/FilledEntity" := Exa.wr W8 E0
  have f10 : Fld Z h5 a "com/example/vellum_channels/vellumchannels/tool/FilledEntity" "letter" "B" (.int 0) := Fld.other W8 F2 (Or.inr (slot_ne (t := .byte) (t' := .int) (Or.inr (hw _ (List.mem_of_getElem? (i := 21) rfl))) (Or.inr (hw _ (List.mem_of_getElem? (i := 19) rfl))) (by decide) (by decide) (by decide)))
  have z11 : n0 ≤ h5.size := by rw [Wr.size W8]; exact Z0
  have f12 : Fld Z h5 a "com/example/vellum_channels/vellumchannels/tool/FilledEntity" "size" "I" (.int x1) := Fld.same W8 F1
  have N13 : Fr n0 _ := Fr.snoc X6 (Fr.nil _) ga
  show Go p e below _ (T4.setTop (mkF m 24 #[.val (.ref a), .val (.int x1), .val (.int x2)] []))
  refine Go.aloadN (pc' := 25) X6 hx hby d3_24 rfl rfl rfl ?_
  refine Go.iloadN (pc' := 26) X6 hx hby d3_25 rfl rfl ?_
  refine Go.i2b (pc' := 27) X6 hx hby d3_26 rfl ?_
  refine Go.putF (pc' := 30) (ty := .byte) X6 hx hby hZ hown (hw _ (List.mem_of_getElem? (i := 20) rfl)) Via.refl e7 f10 f9 (Or.inr ⟨(hw _ (List.mem_of_getElem? (i := 21) rfl)), rfl, hnm⟩) (hw _ (List.mem_of_getElem? (i := 10) rfl)) (by decide) (congrArg Value.int (own_b8 x2)) (fits_nar_byte x2) d3_27 rfl ?_
  intro T14 h15 X16 e17 W18
  have f19 : Exa Z h15 a "com/example/vellum_channels/vellumchannels/tool/FilledEntity" := Exa.wr W18 f9
  have f20 : Fld Z h15 a "com/example/vellum_channels/vellumchannels/tool/FilledEntity" "size" "I" (.int x1) := Fld.other W18 f12 (Or.inr (slot_ne (t := .int) (t' := .byte) (Or.inr (hw _ (List.mem_of_getElem? (i := 19) rfl))) (Or.inr (hw _ (List.mem_of_getElem? (i := 21) rfl))) (by decide) (by decide) (by decide)))
  have z21 : n0 ≤ h15.size := by rw [Wr.size W18]; exact z11
  have f22 : Fld Z h15 a "com/example/vellum_channels/vellumchannels/tool/FilledEntity" "letter" "B" (.int x2.toInt8.toInt32) := Fld.same W18 f10
  have N23 : Fr n0 _ := Fr.snoc X16 N13 ga
  show Go p e below _ (T14.setTop (mkF m 30 #[.val (.ref a), .val (.int x1), .val (.int x2)] []))
  exact Go.ret0 X16 hx hby hlk hret d3_30 (by decide) (by decide) ⟨rfl, N23, by rw [e17]; exact ((Keep.refl h0 _).wr W8 (Or.inl (List.mem_singleton.mpr rfl))).wr W18 (Or.inl (List.mem_singleton.mpr rfl)), by rw [e17]; exact f19, by rw [e17]; exact f22⟩
theorem d6_0 : decode jdk_65_method_109_code 0 = .ok (.iconst 0, 1) := by decide +kernel
theorem d6_1 : decode jdk_65_method_109_code 1 = .ok (.istore_n 2, 1) := by decide +kernel
theorem d6_2 : decode jdk_65_method_109_code 2 = .ok (.aload_n 0, 1) := by decide +kernel
theorem d6_3 : decode jdk_65_method_109_code 3 = .ok (.arraylength, 1) := by decide +kernel
theorem d6_4 : decode jdk_65_method_109_code 4 = .ok (.istore_n 3, 1) := by decide +kernel
theorem d6_5 : decode jdk_65_method_109_code 5 = .ok (.iload_n 2, 1) := by decide +kernel
theorem d6_6 : decode jdk_65_method_109_code 6 = .ok (.iload_n 3, 1) := by decide +kernel
theorem d6_7 : decode jdk_65_method_109_code 7 = .ok (.if_icmp .ge 13, 3) := by decide +kernel
theorem d6_10 : decode jdk_65_method_109_code 10 = .ok (.aload_n 0, 1) := by decide +kernel
theorem d6_11 : decode jdk_65_method_109_code 11 = .ok (.iload_n 2, 1) := by decide +kernel
theorem d6_12 : decode jdk_65_method_109_code 12 = .ok (.iload_n 1, 1) := by decide +kernel
theorem d6_13 : decode jdk_65_method_109_code 13 = .ok (.bastore, 1) := by decide +kernel
theorem d6_14 : decode jdk_65_method_109_code 14 = .ok (.iinc 2 1, 3) := by decide +kernel
theorem d6_17 : decode jdk_65_method_109_code 17 = .ok (.goto (-12), 3) := by decide +kernel
theorem d6_20 : decode jdk_65_method_109_code 20 = .ok (.return_, 1) := by decide +kernel
theorem ef_6 (m : MethodId) (x0 : Addr) (x1 : Int32) : entryFrame m #[(.ref x0), (.int x1)] 4 = mkF m 0 #[.val (.ref x0), .val (.int x1), .unset, .unset] [] := by first | (simp [entryFrame, mkF, argsToLocals, Value.category]; done) | rfl
theorem pn_Arrays : plainName "java/util/Arrays" = true := by first | (simp [plainName, overriddenIn]; done) | decide +kernel
set_option maxRecDepth 65536 in
set_option maxHeartbeats 40000000 in
theorem rmF (l : Launch) (Z : State) (a0 : Array Value) (hw : ∀ d ∈ tables_1, d.before a0 Z = true) (a : Addr) (x1 : Int32) (h0 : Heap) (n0 : Nat) (z : Int32) (f : Int → Value) (ga : n0 ≤ a) (A0 : Ar Z h0 a .byte z.toInt f) :
    Con l Z (⟨"java/util/Arrays", "fill", "([BB)V"⟩ : MethodName) jdk_65_method_109_code 4 none [] ({ frames := 0, cells := 0, slots := 0, locals := 0 } : Room) #[(.ref a), (.int x1)] h0 (fun v h L => v = none ∧ Fr n0 L ∧ Keep h0 h [a] ∧ Ar Z h a .byte z.toInt (fun _ => .int (nar .byte x1))) := by
  refine Con.of (plainFor_of_name pn_Arrays) ?_
  intro p e s m below meth c s₁ hx hby hml hown hnm hret hlk hZ X0 e0
  refine Go.cast (ef_6 m a x1) ?_
  replace hown : s.vm.findClass "java/util/Arrays" = some m.cls := hown
  have hz := A0.bound
  refine Go.iconst (pc' := 1) X0 hx hby d6_0 rfl (v := (0 : Int32)) (by decide) ?_
  refine Go.istoreN (Ls' := #[.val (.ref a), .val (.int x1), .val (.int (0 : Int32)), .unset]) (pc' := 2) X0 hx hby d6_1 rfl rfl ?_
  refine Go.aloadN (pc' := 3) X0 hx hby d6_2 rfl rfl rfl ?_
  refine Go.alen (pc' := 4) (zv := z) X0 hx hby hZ e0 A0 d6_3 rfl rfl ?_
  refine Go.istoreN (Ls' := #[.val (.ref a), .val (.int x1), .val (.int (0 : Int32)), .val (.int z)]) (pc' := 5) X0 hx hby d6_4 rfl rfl ?_
  refine Go.loop (α := State × Heap × List Loc × Int32) (F := fun y => y.1.setTop (mkF m 5 #[.val (.ref a), .val (.int x1), .val (.int y.2.2.2), .val (.int z)] [])) (I := fun y => (Stand p l e ({ frames := 0, cells := 0, slots := 0, locals := 0 } : Room) s m #[(.ref a), (.int x1)] below meth c y.1 y.2.2.1 0 0) ∧ (y.1.heap = y.2.1) ∧ (Fr n0 y.2.2.1) ∧ (Keep h0 y.2.1 [a]) ∧ (0 ≤ y.2.2.2.toInt) ∧ (Ar Z y.2.1 a .byte z.toInt (fun q => if q < y.2.2.2.toInt then .int (nar .byte x1) else f q))) (μ := fun y => (z.toInt - y.2.2.2.toInt).toNat) ?_ (s₁, h0, [], 0) ⟨X0, e0, (Fr.nil _), Keep.refl _ _, (by decide : (0 : Int) ≤ (0 : Int32).toInt), A0.congr (fun q h1 h2 => by rw [if_neg]; rw [own_0]; omega)⟩
  rintro ⟨T1, h2, L3, i⟩ ⟨X4, e5, N6, K, hi, A⟩ ih
  dsimp only at X4 e5 N6 K hi A
  show Go p e below _ (T1.setTop (mkF m 5 #[.val (.ref a), .val (.int x1), .val (.int i), .val (.int z)] []))
  refine Go.iloadN (pc' := 6) X4 hx hby d6_5 rfl rfl ?_
  refine Go.iloadN (pc' := 7) X4 hx hby d6_6 rfl rfl ?_
  refine Go.icmp (pc' := 20) (pn := 10) X4 hx hby d6_7 (by decide) (by decide) rfl (fun (cz : z ≤ i) => ?_) (fun (cz : ¬ (z ≤ i)) => ?_)
  ·
    rw [Int32.le_iff_toInt_le] at cz
    exact Go.ret0 X4 hx hby hlk hret d6_20 (by decide) (by decide) ⟨rfl, N6, by rw [e5]; exact K, by rw [e5]; exact A.congr (fun q h1 h2 => if_pos (by omega))⟩
  ·
    rw [Int32.le_iff_toInt_le] at cz
    refine Go.aloadN (pc' := 11) X4 hx hby d6_10 rfl rfl rfl ?_
    refine Go.iloadN (pc' := 12) X4 hx hby d6_11 rfl rfl ?_
    refine Go.iloadN (pc' := 13) X4 hx hby d6_12 rfl rfl ?_
    refine Go.bastore (pc' := 14) (i := i.toInt) X4 hx hby hZ e5 A d6_13 rfl rfl hi (by omega) ?_
    intro T7 h8 X9 e10 W11 A12
    have e1 := own_toIntS i (by omega)
    show Go p e below _ (T7.setTop (mkF m 14 #[.val (.ref a), .val (.int x1), .val (.int i), .val (.int z)] []))
    refine Go.iinc (w := i + (1 : Int32)) (Ls' := #[.val (.ref a), .val (.int x1), .val (.int (i + (1 : Int32))), .val (.int z)]) (pc' := 17) X9 hx hby d6_14 rfl rfl rfl rfl ?_
    refine Go.goto (pc' := 5) X9 hx hby d6_17 (by decide) (by decide) ?_
    exact ih (T7, h8, _, i + 1) ⟨X9, e10, Fr.snoc X9 N6 ga, K.wr W11 (Or.inl (List.mem_singleton.mpr rfl)), by (try dsimp only); omega, A12.congr (fun q h1 h2 => by (try dsimp only); rw [e1]; by_cases g1 : q = i.toInt <;> by_cases g2 : q < i.toInt <;> simp [g1, g2] <;> omega)⟩ (by (try dsimp only); omega)
theorem d5_0 : decode prog_39_method_3_code 0 = .ok (.iload_n 2, 1) := by decide +kernel
theorem d5_1 : decode prog_39_method_3_code 1 = .ok (.newarray .byte, 2) := by decide +kernel
theorem d5_3 : decode prog_39_method_3_code 3 = .ok (.astore_n 3, 1) := by decide +kernel
theorem d5_4 : decode prog_39_method_3_code 4 = .ok (.aload_n 3, 1) := by decide +kernel
theorem d5_5 : decode prog_39_method_3_code 5 = .ok (.aload_n 0, 1) := by decide +kernel
theorem d5_6 : decode prog_39_method_3_code 6 = .ok (.getfield 20, 3) := by decide +kernel
theorem d5_9 : decode prog_39_method_3_code 9 = .ok (.invokestatic 24, 3) := by decide +kernel
theorem d5_12 : decode prog_39_method_3_code 12 = .ok (.iload_n 1, 1) := by decide +kernel
theorem d5_13 : decode prog_39_method_3_code 13 = .ok (.istore 4, 2) := by decide +kernel
theorem d5_15 : decode prog_39_method_3_code 15 = .ok (.iload 4, 2) := by decide +kernel
theorem d5_17 : decode prog_39_method_3_code 17 = .ok (.iconst 2, 1) := by decide +kernel
theorem d5_18 : decode prog_39_method_3_code 18 = .ok (.if_icmp .ge 35, 3) := by decide +kernel
theorem d5_21 : decode prog_39_method_3_code 21 = .ok (.iload 4, 2) := by decide +kernel
theorem d5_23 : decode prog_39_method_3_code 23 = .ok (.iload_n 1, 1) := by decide +kernel
theorem d5_24 : decode prog_39_method_3_code 24 = .ok (.iload_n 2, 1) := by decide +kernel
theorem d5_25 : decode prog_39_method_3_code 25 = .ok (.iadd, 1) := by decide +kernel
theorem d5_26 : decode prog_39_method_3_code 26 = .ok (.if_icmp .ge 27, 3) := by decide +kernel
theorem d5_29 : decode prog_39_method_3_code 29 = .ok (.aload_n 3, 1) := by decide +kernel
theorem d5_30 : decode prog_39_method_3_code 30 = .ok (.iload 4, 2) := by decide +kernel
theorem d5_32 : decode prog_39_method_3_code 32 = .ok (.iload_n 1, 1) := by decide +kernel
theorem d5_33 : decode prog_39_method_3_code 33 = .ok (.isub, 1) := by decide +kernel
theorem d5_34 : decode prog_39_method_3_code 34 = .ok (.iload 4, 2) := by decide +kernel
theorem d5_36 : decode prog_39_method_3_code 36 = .ok (.ifCond .ne 8, 3) := by decide +kernel
theorem d5_39 : decode prog_39_method_3_code 39 = .ok (.bipush 13, 2) := by decide +kernel
theorem d5_41 : decode prog_39_method_3_code 41 = .ok (.goto 5, 3) := by decide +kernel
theorem d5_44 : decode prog_39_method_3_code 44 = .ok (.bipush 10, 2) := by decide +kernel
theorem d5_46 : decode prog_39_method_3_code 46 = .ok (.bastore, 1) := by decide +kernel
theorem d5_47 : decode prog_39_method_3_code 47 = .ok (.iinc 4 1, 3) := by decide +kernel
theorem d5_50 : decode prog_39_method_3_code 50 = .ok (.goto (-35), 3) := by decide +kernel
theorem d5_53 : decode prog_39_method_3_code 53 = .ok (.aload_n 3, 1) := by decide +kernel
theorem d5_54 : decode prog_39_method_3_code 54 = .ok (.areturn, 1) := by decide +kernel
theorem pd_0 : parseMethodDescriptor "()V" = some ⟨[], none⟩ := by decide +kernel
theorem pd_1 : parseMethodDescriptor "([BB)V" = some ⟨[(.array .byte), .byte], none⟩ := by decide +kernel
theorem pd_2 : parseMethodDescriptor "(II)I" = some ⟨[.int, .int], some .int⟩ := by decide +kernel
theorem pd_3 : parseMethodDescriptor "(IC)V" = some ⟨[.int, .char], none⟩ := by decide +kernel
theorem pd_4 : parseMethodDescriptor "(II)[B" = some ⟨[.int, .int], some (.array .byte)⟩ := by decide +kernel
theorem pd_5 : parseMethodDescriptor "(IC)B" = some ⟨[.int, .char], some .byte⟩ := by decide +kernel
theorem ef_5 (m : MethodId) (x0 : Addr) (x1 : Int32) (x2 : Int32) : entryFrame m #[(.ref x0), (.int x1), (.int x2)] 5 = mkF m 0 #[.val (.ref x0), .val (.int x1), .val (.int x2), .unset, .unset] [] := by first | (simp [entryFrame, mkF, argsToLocals, Value.category]; done) | rfl
set_option maxRecDepth 65536 in
set_option maxHeartbeats 40000000 in
theorem rmR (l : Launch) (Z : State) (a0 : Array Value) (hw : ∀ d ∈ tables_1, d.before a0 Z = true) (a : Addr) (x1 : Int32) (x2 : Int32) (h0 : Heap) (n0 : Nat) (t : Int32) (Z0 : n0 ≤ h0.size) (F1 : Fld Z h0 a "com/example/vellum_channels/vellumchannels/tool/FilledEntity" "letter" "B" (.int t)) (ht : nar .byte t = t) (ho : 0 ≤ x1.toInt) (hl : 0 ≤ x2.toInt ∧ x2.toInt ≤ 15) (hs : x1.toInt + x2.toInt ≤ 2147483647) :
    Con l Z (⟨"com/example/vellum_channels/vellumchannels/tool/FilledEntity", "read", "(II)[B"⟩ : MethodName) prog_39_method_3_code 5 (some (.array .byte)) [] ({ frames := 1, cells := 1, slots := 15, locals := 15 } : Room) #[(.ref a), (.int x1), (.int x2)] h0 (fun v h L => ∃ b, v = some (.ref b) ∧ h0.size ≤ b ∧ Fr n0 L ∧ Keep h0 h [] ∧ Ar Z h b .byte x2.toInt (fun q => .int (own_ex (x1.toInt + q) t))) := by
  refine Con.of (plainFor_of_name pn_FilledEntity) ?_
  intro p e s m below meth c s₁ hx hby hml hown hnm hret hlk hZ X0 e0
  refine Go.cast (ef_5 m a x1 x2) ?_
  replace hown : s.vm.findClass "com/example/vellum_channels/vellumchannels/tool/FilledEntity" = some m.cls := hown
  refine Go.iloadN (pc' := 1) X0 hx hby d5_0 rfl rfl ?_
  refine Go.newarr (pc' := 3) (cap := 15) (z := x2.toInt) X0 hx hby hZ (hw _ (List.mem_of_getElem? (i := 27) rfl)) e0 d5_1 rfl rfl hl.1 (by omega) (by decide) (by decide) (by decide) ?_
  intro b1 T2 h3 g4 X5 e6 E7 A8
  have n9 : a ≠ b1 := Nat.ne_of_lt (by rw [g4]; exact F1.lt)
  have g10 : n0 ≤ b1 := by rw [g4]; exact Z0
  have f11 : Fld Z h3 a "com/example/vellum_channels/vellumchannels/tool/FilledEntity" "letter" "B" (.int t) := Fld.ext E7 F1
  have z12 : n0 ≤ h3.size := Nat.le_trans Z0 E7.1
  have f13 : Ar Z h3 b1 .byte x2.toInt (fun _ => (.int 0)) := A8
  show Go p e below _ (T2.setTop (mkF m 3 #[.val (.ref a), .val (.int x1), .val (.int x2), .unset, .unset] [(.ref b1)]))
  have Kn : Keep h0 h3 [] := (Keep.refl h0 []).ext E7
  have gb : h0.size ≤ b1 := by rw [g4]; exact Nat.le_refl _
  refine Go.astoreN (Ls' := #[.val (.ref a), .val (.int x1), .val (.int x2), .val (.ref b1), .unset]) (pc' := 4) X5 hx hby d5_3 rfl rfl rfl ?_
  refine Go.aloadN (pc' := 5) X5 hx hby d5_4 rfl rfl rfl ?_
  refine Go.aloadN (pc' := 6) X5 hx hby d5_5 rfl rfl rfl ?_
  refine Go.getF (pc' := 9) X5 hx hby hZ hown (hw _ (List.mem_of_getElem? (i := 20) rfl)) Via.refl e6 f11 d5_6 rfl ?_
  intro T14 X15 e16
  refine Go.callS (pc' := 12) (W := 0) (argsL := [(.ref b1), (.int t)]) (rest := []) X15 hx hby hZ hown (hw _ (List.mem_of_getElem? (i := 28) rfl)) (hw _ (List.mem_of_getElem? (i := 29) rfl)) (hw _ (List.mem_of_getElem? (i := 30) rfl)) (hw _ (List.mem_of_getElem? (i := 31) rfl)) (by decide) (rmF l Z a0 hw b1 t h3 n0 x2 _ g10 f13) e16 (by decide) (by decide) (by rw [hml]; rfl) pd_1 rfl rfl rfl (Nat.le_of_eq rfl) d5_9 rfl (by decide) (by decide) ?_
  rintro r17 T18 L19 X20 ⟨rfl, N5, K5, A5⟩
  show Go p e below _ (T18.setTop (mkF m 12 #[.val (.ref a), .val (.int x1), .val (.int x2), .val (.ref b1), .unset] []))
  have A6 : Ar Z T18.heap b1 .byte x2.toInt (fun q => if x1.toInt + q < x1.toInt then .int (own_ex (x1.toInt + q) t) else .int t) := A5.congr (fun q h1 h2 => by (try dsimp only); rw [if_neg (by omega), ht])
  have K6 := Kn.trans K5 (allS (Or.inr gb) all0)
  have N6 : Fr n0 _ := Fr.app (Fr.nil _) N5
  refine Go.iloadN (pc' := 13) X20 hx hby d5_12 rfl rfl ?_
  refine Go.istore (Ls' := #[.val (.ref a), .val (.int x1), .val (.int x2), .val (.ref b1), .val (.int x1)]) (pc' := 15) X20 hx hby d5_13 rfl rfl ?_
  have e12 : (x1 + x2).toInt = x1.toInt + x2.toInt := by have q1 := c_iadd x1 x2; have q2 := rng32 (x1 + x2); omega
  refine Go.loop (α := State × Heap × List Loc × Int32) (F := fun y => y.1.setTop (mkF m 15 #[.val (.ref a), .val (.int x1), .val (.int x2), .val (.ref b1), .val (.int y.2.2.2)] [])) (I := fun y => (Stand p l e ({ frames := 1, cells := 1, slots := 15, locals := 15 } : Room) s m #[(.ref a), (.int x1), (.int x2)] below meth c y.1 y.2.2.1 1 15) ∧ (y.1.heap = y.2.1) ∧ (Fr n0 y.2.2.1) ∧ (Keep h0 y.2.1 []) ∧ (x1.toInt ≤ y.2.2.2.toInt ∧ y.2.2.2.toInt ≤ x1.toInt + x2.toInt) ∧ (Ar Z y.2.1 b1 .byte x2.toInt (fun q => if x1.toInt + q < y.2.2.2.toInt then .int (own_ex (x1.toInt + q) t) else .int t))) (μ := fun y => (x1.toInt + x2.toInt - y.2.2.2.toInt).toNat) ?_ (T18, T18.heap, _, x1) ⟨X20, rfl, N6, K6, by (try dsimp only); omega, A6⟩
  rintro ⟨T21, h22, L23, i⟩ ⟨X24, e25, N26, K, hi, A⟩ ih
  dsimp only at X24 e25 N26 K hi A
  show Go p e below _ (T21.setTop (mkF m 15 #[.val (.ref a), .val (.int x1), .val (.int x2), .val (.ref b1), .val (.int i)] []))
  refine Go.iload (pc' := 17) X24 hx hby d5_15 rfl rfl ?_
  refine Go.iconst (pc' := 18) X24 hx hby d5_17 rfl (v := (2 : Int32)) (by decide) ?_
  refine Go.icmp (pc' := 53) (pn := 21) X24 hx hby d5_18 (by decide) (by decide) rfl (fun (ca : (2 : Int32) ≤ i) => ?_) (fun (ca : ¬ ((2 : Int32) ≤ i)) => ?_)
  ·
    rw [Int32.le_iff_toInt_le, own_2] at ca
    have A9 : Ar Z h22 b1 .byte x2.toInt (fun q => .int (own_ex (x1.toInt + q) t)) := A.congr (fun q h1 h2 => by
      try dsimp only
      by_cases g : x1.toInt + q < i.toInt
      · rw [if_pos g]
      · rw [if_neg g]; unfold own_ex; rw [if_neg (by omega), if_neg (by omega)])
    refine Go.aloadN (pc' := 54) X24 hx hby d5_53 rfl rfl rfl ?_
    exact Go.retA X24 hx hby hlk hret rfl rfl rfl d5_54 (by decide) (by decide) ⟨b1, rfl, gb, N26, by rw [e25]; exact K, by rw [e25]; exact A9⟩
  ·
    rw [Int32.le_iff_toInt_le, own_2] at ca
    refine Go.iload (pc' := 23) X24 hx hby d5_21 rfl rfl ?_
    refine Go.iloadN (pc' := 24) X24 hx hby d5_23 rfl rfl ?_
    refine Go.iloadN (pc' := 25) X24 hx hby d5_24 rfl rfl ?_
    refine Go.iadd (pc' := 26) X24 hx hby d5_25 rfl ?_
    refine Go.icmp (pc' := 53) (pn := 29) X24 hx hby d5_26 (by decide) (by decide) rfl (fun (cb : (x1 + x2) ≤ i) => ?_) (fun (cb : ¬ ((x1 + x2) ≤ i)) => ?_)
    ·
      rw [Int32.le_iff_toInt_le, e12] at cb
      have A9 : Ar Z h22 b1 .byte x2.toInt (fun q => .int (own_ex (x1.toInt + q) t)) := A.congr (fun q h1 h2 => by
        try dsimp only
        by_cases g : x1.toInt + q < i.toInt
        · rw [if_pos g]
        · rw [if_neg g]; unfold own_ex; rw [if_neg (by omega), if_neg (by omega)])
      refine Go.aloadN (pc' := 54) X24 hx hby d5_53 rfl rfl rfl ?_
      exact Go.retA X24 hx hby hlk hret rfl rfl rfl d5_54 (by decide) (by decide) ⟨b1, rfl, gb, N26, by rw [e25]; exact K, by rw [e25]; exact A9⟩
    ·
      rw [Int32.le_iff_toInt_le, e12] at cb
      refine Go.aloadN (pc' := 30) X24 hx hby d5_29 rfl rfl rfl ?_
      refine Go.iload (pc' := 32) X24 hx hby d5_30 rfl rfl ?_
      refine Go.iloadN (pc' := 33) X24 hx hby d5_32 rfl rfl ?_
      refine Go.isub (pc' := 34) X24 hx hby d5_33 rfl ?_
      refine Go.iload (pc' := 36) X24 hx hby d5_34 rfl rfl ?_
      have ei : (i - x1).toInt = i.toInt - x1.toInt := by have q1 := c_isub i x1; have q2 := rng32 (i - x1); have q3 := rng32 i; omega
      refine Go.if_ (pc' := 44) (pn := 39) X24 hx hby d5_36 (by decide) (by decide) rfl (fun (cc : i ≠ 0) => ?_) (fun (cc : ¬ (i ≠ 0)) => ?_)
      ·
        refine Go.bipush (pc' := 46) X24 hx hby d5_44 rfl (v := (10 : Int32)) (by decide) ?_
        refine Go.bastore (pc' := 47) (i := i.toInt - x1.toInt) X24 hx hby hZ e25 A d5_46 rfl ei (by omega) (by omega) ?_
        intro T27 h28 X29 e30 W31 A32
        have e1 := own_toIntS i (by omega)
        show Go p e below _ (T27.setTop (mkF m 47 #[.val (.ref a), .val (.int x1), .val (.int x2), .val (.ref b1), .val (.int i)] []))
        refine Go.iinc (w := i + (1 : Int32)) (Ls' := #[.val (.ref a), .val (.int x1), .val (.int x2), .val (.ref b1), .val (.int (i + (1 : Int32)))]) (pc' := 50) X29 hx hby d5_47 rfl rfl rfl rfl ?_
        refine Go.goto (pc' := 15) X29 hx hby d5_50 (by decide) (by decide) ?_
        refine ih (T27, h28, _, i + 1) ⟨X29, e30, Fr.snoc X29 N26 g10, K.wr W31 (Or.inr gb), by (try dsimp only); omega, A32.congr (fun q h1 h2 => ?_)⟩ (by (try dsimp only); omega)
        try dsimp only
        rw [e1]
        by_cases g1 : q = i.toInt - x1.toInt
        · rw [if_pos g1, if_pos (by omega), show x1.toInt + q = i.toInt by omega]
          congr 1
          show _ = own_ex i.toInt t
          unfold own_ex
          rw [if_neg (fun q => cc (Int32.toInt_inj.mp (by rw [q, own_0]))), if_pos (by have : i.toInt ≠ 0 := (fun q => cc (Int32.toInt_inj.mp (by rw [q, own_0]))); omega)]; rfl
        · rw [if_neg g1]
          by_cases g2 : x1.toInt + q < i.toInt
          · rw [if_pos g2, if_pos (by omega)]
          · rw [if_neg g2, if_neg (by omega)]
      ·
        refine Go.bipush (pc' := 41) X24 hx hby d5_39 rfl (v := (13 : Int32)) (by decide) ?_
        refine Go.goto (pc' := 46) X24 hx hby d5_41 (by decide) (by decide) ?_
        refine Go.bastore (pc' := 47) (i := i.toInt - x1.toInt) X24 hx hby hZ e25 A d5_46 rfl ei (by omega) (by omega) ?_
        intro T33 h34 X35 e36 W37 A38
        have e1 := own_toIntS i (by omega)
        show Go p e below _ (T33.setTop (mkF m 47 #[.val (.ref a), .val (.int x1), .val (.int x2), .val (.ref b1), .val (.int i)] []))
        refine Go.iinc (w := i + (1 : Int32)) (Ls' := #[.val (.ref a), .val (.int x1), .val (.int x2), .val (.ref b1), .val (.int (i + (1 : Int32)))]) (pc' := 50) X35 hx hby d5_47 rfl rfl rfl rfl ?_
        refine Go.goto (pc' := 15) X35 hx hby d5_50 (by decide) (by decide) ?_
        refine ih (T33, h34, _, i + 1) ⟨X35, e36, Fr.snoc X35 N26 g10, K.wr W37 (Or.inr gb), by (try dsimp only); omega, A38.congr (fun q h1 h2 => ?_)⟩ (by (try dsimp only); omega)
        try dsimp only
        rw [e1]
        by_cases g1 : q = i.toInt - x1.toInt
        · rw [if_pos g1, if_pos (by omega), show x1.toInt + q = i.toInt by omega]
          congr 1
          show _ = own_ex i.toInt t
          unfold own_ex
          rw [if_pos (by rw [Classical.not_not.mp cc, own_0])]; rfl
        · rw [if_neg g1]
          by_cases g2 : x1.toInt + q < i.toInt
          · rw [if_pos g2, if_pos (by omega)]
          · rw [if_neg g2, if_neg (by omega)]
theorem ef_0 (m : MethodId) (x0 : Int32) (x1 : Int32) (x2 : Int32) (x3 : Int32) (x4 : Int32) : entryFrame m #[(.int x0), (.int x1), (.int x2), (.int x3), (.int x4)] maxLocals = mkF m 0 #[.val (.int x0), .val (.int x1), .val (.int x2), .val (.int x3), .val (.int x4), .unset, .unset, .unset, .unset, .unset, .unset, .unset, .unset, .unset, .unset, .unset, .unset] [] := by first | (simp [entryFrame, mkF, argsToLocals, Value.category, maxLocals]; done) | rfl
set_option maxRecDepth 65536 in
set_option maxHeartbeats 40000000 in
theorem rm0 (l : Launch) (Z : State) (a0 : Array Value) (hw : ∀ d ∈ tables_1, d.before a0 Z = true) (x0 : Int32) (x1 : Int32) (x2 : Int32) (x3 : Int32) (x4 : Int32) (h0 : Heap) :
    Con l Z x code maxLocals ret tables_1 room_1 #[(.int x0), (.int x1), (.int x2), (.int x3), (.int x4)] h0 (LQ h0.size) := by
  refine Con.of (plainFor_of_name pn_FilledEntityReadPinLaw) ?_
  intro p e s m below meth c s₁ hx hby hml hown hnm hret hlk hZ X0 e0
  refine Go.cast (ef_0 m x0 x1 x2 x3 x4) ?_
  change c.maxLocals = 17 at hml
  replace hown : s.vm.findClass "com/example/vellum_channels/vellumchannels/tool/FilledEntityReadPinLaw" = some m.cls := hown
  refine Go.iconst (pc' := 1) X0 hx hby at_0 rfl (v := (2 : Int32)) (by decide) ?_
  refine Go.iloadN (pc' := 2) X0 hx hby at_1 rfl rfl ?_
  refine Go.ldcI (pc' := 4) X0 hx hby at_2 rfl hown (mvT hZ (hw _ (List.mem_of_getElem? (i := 0) rfl))) ?_
  refine Go.iand (pc' := 5) X0 hx hby at_4 rfl ?_
  refine Go.callS (pc' := 8) (W := 0) (argsL := [(.int (2 : Int32)), (.int (x0 &&& (2147483647 : Int32)))]) (rest := []) X0 hx hby hZ hown (hw _ (List.mem_of_getElem? (i := 1) rfl)) (hw _ (List.mem_of_getElem? (i := 2) rfl)) (hw _ (List.mem_of_getElem? (i := 3) rfl)) (hw _ (List.mem_of_getElem? (i := 4) rfl)) (by decide) (rmX l Z a0 hw (2 : Int32) (x0 &&& (2147483647 : Int32)) h0) e0 (by decide) (by decide) (by rw [hml]; rfl) pd_2 rfl rfl rfl (Nat.le_of_eq rfl) at_5 rfl (by decide) (by decide) ?_
  rintro r1 T2 L3 X4 ⟨rfl, rfl, e6⟩
  rw [List.append_nil] at X4
  show Go p e below _ (T2.setTop (mkF m 8 #[.val (.int x0), .val (.int x1), .val (.int x2), .val (.int x3), .val (.int x4), .unset, .unset, .unset, .unset, .unset, .unset, .unset, .unset, .unset, .unset, .unset, .unset] [(.int (own_max (2 : Int32) (x0 &&& (2147483647 : Int32))))]))
  refine Go.nmI (fun (sz : Int32) (hsz : sz = own_max (2 : Int32) (x0 &&& (2147483647 : Int32))) => ?_)
  have hs : 2 ≤ sz.toInt := by rw [hsz]; exact own_sz x0
  clear hsz
  refine Go.istore (Ls' := #[.val (.int x0), .val (.int x1), .val (.int x2), .val (.int x3), .val (.int x4), .val (.int sz), .unset, .unset, .unset, .unset, .unset, .unset, .unset, .unset, .unset, .unset, .unset]) (pc' := 10) X4 hx hby at_8 rfl rfl ?_
  refine Go.iloadN (pc' := 11) X4 hx hby at_10 rfl rfl ?_
  refine Go.bipush (pc' := 13) X4 hx hby at_11 rfl (v := (15 : Int32)) (by decide) ?_
  refine Go.iand (pc' := 14) X4 hx hby at_13 rfl ?_
  refine Go.iload (pc' := 16) X4 hx hby at_14 rfl rfl ?_
  refine Go.callS (pc' := 19) (W := 0) (argsL := [(.int (x1 &&& (15 : Int32))), (.int sz)]) (rest := []) X4 hx hby hZ hown (hw _ (List.mem_of_getElem? (i := 5) rfl)) (hw _ (List.mem_of_getElem? (i := 6) rfl)) (hw _ (List.mem_of_getElem? (i := 3) rfl)) (hw _ (List.mem_of_getElem? (i := 7) rfl)) (by decide) (rmN l Z a0 hw (x1 &&& (15 : Int32)) sz h0) e6 (by decide) (by decide) (by rw [hml]; rfl) pd_2 rfl rfl rfl (Nat.le_of_eq rfl) at_16 rfl (by decide) (by decide) ?_
  rintro r7 T8 L9 X10 ⟨rfl, rfl, e12⟩
  rw [List.append_nil] at X10
  show Go p e below _ (T8.setTop (mkF m 19 #[.val (.int x0), .val (.int x1), .val (.int x2), .val (.int x3), .val (.int x4), .val (.int sz), .unset, .unset, .unset, .unset, .unset, .unset, .unset, .unset, .unset, .unset, .unset] [(.int (own_min (x1 &&& (15 : Int32)) sz))]))
  refine Go.nmI (fun (ln : Int32) (hln : ln = own_min (x1 &&& (15 : Int32)) sz) => ?_)
  have hl : 0 ≤ ln.toInt ∧ ln.toInt ≤ 15 ∧ ln.toInt ≤ sz.toInt := by rw [hln]; exact own_ln x1 sz hs
  clear hln
  refine Go.istore (Ls' := #[.val (.int x0), .val (.int x1), .val (.int x2), .val (.int x3), .val (.int x4), .val (.int sz), .val (.int ln), .unset, .unset, .unset, .unset, .unset, .unset, .unset, .unset, .unset, .unset]) (pc' := 21) X10 hx hby at_19 rfl rfl ?_
  refine Go.iload (pc' := 23) X10 hx hby at_21 rfl rfl ?_
  refine Go.i2l (pc' := 24) X10 hx hby at_23 rfl ?_
  refine Go.iload (pc' := 26) X10 hx hby at_24 rfl rfl ?_
  refine Go.i2l (pc' := 27) X10 hx hby at_26 rfl ?_
  refine Go.lsub (pc' := 28) X10 hx hby at_27 rfl ?_
  refine Go.lconst (pc' := 29) X10 hx hby at_28 rfl (v := (1 : Int64)) (by decide) ?_
  refine Go.ladd (pc' := 30) X10 hx hby at_29 rfl ?_
  refine Go.lstore (Ls' := #[.val (.int x0), .val (.int x1), .val (.int x2), .val (.int x3), .val (.int x4), .val (.int sz), .val (.int ln), .val (.long ((sz.toInt64 - ln.toInt64) + (1 : Int64))), .second, .unset, .unset, .unset, .unset, .unset, .unset, .unset, .unset]) (pc' := 32) X10 hx hby at_30 rfl rfl ?_
  refine Go.iloadN (pc' := 33) X10 hx hby at_32 rfl rfl ?_
  refine Go.i2l (pc' := 34) X10 hx hby at_33 rfl ?_
  refine Go.ldc2J (pc' := 37) X10 hx hby at_34 rfl hown (mvT hZ (hw _ (List.mem_of_getElem? (i := 8) rfl))) ?_
  refine Go.land (pc' := 38) X10 hx hby at_37 rfl ?_
  refine Go.lload (pc' := 40) X10 hx hby at_38 rfl rfl ?_
  refine Go.lrem (pc' := 41) X10 hx hby at_40 rfl (own_spn0 sz ln hs ⟨hl.1, hl.2.2⟩) ?_
  refine Go.l2i (pc' := 42) X10 hx hby at_41 rfl ?_
  refine Go.nmI (fun (off : Int32) (hoff : off = ((x2.toInt64 &&& (2147483647 : Int64)) - ((x2.toInt64 &&& (2147483647 : Int64)) / ((sz.toInt64 - ln.toInt64) + (1 : Int64))) * ((sz.toInt64 - ln.toInt64) + (1 : Int64))).toInt32) => ?_)
  have ho : 0 ≤ off.toInt ∧ off.toInt + ln.toInt ≤ sz.toInt := by rw [hoff]; exact own_off x2 sz ln hs ⟨hl.1, hl.2.2⟩
  clear hoff
  have hr := rng32 sz
  refine Go.istore (Ls' := #[.val (.int x0), .val (.int x1), .val (.int x2), .val (.int x3), .val (.int x4), .val (.int sz), .val (.int ln), .val (.long ((sz.toInt64 - ln.toInt64) + (1 : Int64))), .second, .val (.int off), .unset, .unset, .unset, .unset, .unset, .unset, .unset]) (pc' := 44) X10 hx hby at_42 rfl rfl ?_
  refine Go.iload (pc' := 46) X10 hx hby at_44 rfl rfl ?_
  refine Go.sipush (pc' := 49) X10 hx hby at_46 rfl (v := (255 : Int32)) (by decide) ?_
  refine Go.iand (pc' := 50) X10 hx hby at_49 rfl ?_
  refine Go.i2c (pc' := 51) X10 hx hby at_50 rfl ?_
  refine Go.nmI (fun (ch : Int32) (hch : ch = (x4 &&& (255 : Int32)).toUInt32.toUInt16.toUInt32.toInt32) => ?_)
  refine Go.istore (Ls' := #[.val (.int x0), .val (.int x1), .val (.int x2), .val (.int x3), .val (.int x4), .val (.int sz), .val (.int ln), .val (.long ((sz.toInt64 - ln.toInt64) + (1 : Int64))), .second, .val (.int off), .val (.int ch), .unset, .unset, .unset, .unset, .unset, .unset]) (pc' := 53) X10 hx hby at_51 rfl rfl ?_
  refine Go.new_ (pc' := 56) X10 hx hby hZ hown (hw _ (List.mem_of_getElem? (i := 9) rfl)) (hw _ (List.mem_of_getElem? (i := 10) rfl)) (hw _ (List.mem_of_getElem? (i := 11) rfl)) e12 at_53 rfl (by decide) (by decide) ?_
  intro b13 T14 h15 g16 X17 e18 E19 A20 D21
  have g22 : h0.size ≤ b13 := by rw [g16]; exact (Nat.le_refl _)
  have z23 : h0.size ≤ h15.size := Nat.le_trans (Nat.le_refl _) E19.1
  have f24 : Exa Z h15 b13 "com/example/vellum_channels/vellumchannels/tool/FilledEntity" := A20
  have f25 : Fld Z h15 b13 "com/example/vellum_channels/vellumchannels/tool/FilledEntity" "size" "I" (.int 0) := D21 (Or.inr (hw _ (List.mem_of_getElem? (i := 19) rfl))) (ty := .int) (by decide)
  have f26 : Fld Z h15 b13 "com/example/vellum_channels/vellumchannels/tool/FilledEntity" "letter" "B" (.int 0) := D21 (Or.inr (hw _ (List.mem_of_getElem? (i := 21) rfl))) (ty := .byte) (by decide)
  show Go p e below _ (T14.setTop (mkF m 56 #[.val (.int x0), .val (.int x1), .val (.int x2), .val (.int x3), .val (.int x4), .val (.int sz), .val (.int ln), .val (.long ((sz.toInt64 - ln.toInt64) + (1 : Int64))), .second, .val (.int off), .val (.int ch), .unset, .unset, .unset, .unset, .unset, .unset] [(.ref b13)]))
  refine Go.dup (pc' := 57) X17 hx hby at_56 rfl rfl ?_
  refine Go.iload (pc' := 59) X17 hx hby at_57 rfl rfl ?_
  refine Go.iload (pc' := 61) X17 hx hby at_59 rfl rfl ?_
  refine Go.callI (pc' := 64) (a := b13) (W := 1) (argsL := [(.int sz), (.int ch)]) (rest := [(.ref b13)]) X17 hx hby rfl hZ hown (hw _ (List.mem_of_getElem? (i := 12) rfl)) (hw _ (List.mem_of_getElem? (i := 13) rfl)) (hw _ (List.mem_of_getElem? (i := 11) rfl)) (hw _ (List.mem_of_getElem? (i := 14) rfl)) (by decide) (rmI l Z a0 hw b13 sz ch h15 h0.size g22 z23 f24 f25 f26 hs) e18 (by decide) (by decide) (by rw [hml]; rfl) pd_3 rfl rfl rfl (Nat.le_of_eq rfl) at_61 rfl (by decide) (by decide) ?_
  rintro r27 T28 L29 X30 ⟨rfl, N1, K1, E1, F1⟩
  have Z1 : h0.size ≤ T28.heap.size := Nat.le_trans z23 K1.1
  show Go p e below _ (T28.setTop (mkF m 64 #[.val (.int x0), .val (.int x1), .val (.int x2), .val (.int x3), .val (.int x4), .val (.int sz), .val (.int ln), .val (.long ((sz.toInt64 - ln.toInt64) + (1 : Int64))), .second, .val (.int off), .val (.int ch), .unset, .unset, .unset, .unset, .unset, .unset] [(.ref b13)]))
  refine Go.astore (Ls' := #[.val (.int x0), .val (.int x1), .val (.int x2), .val (.int x3), .val (.int x4), .val (.int sz), .val (.int ln), .val (.long ((sz.toInt64 - ln.toInt64) + (1 : Int64))), .second, .val (.int off), .val (.int ch), .val (.ref b13), .unset, .unset, .unset, .unset, .unset]) (pc' := 66) X30 hx hby at_64 rfl rfl rfl ?_
  refine Go.aload (pc' := 68) X30 hx hby at_66 rfl rfl rfl ?_
  refine Go.iload (pc' := 70) X30 hx hby at_68 rfl rfl ?_
  refine Go.iload (pc' := 72) X30 hx hby at_70 rfl rfl ?_
  refine Go.callV (C := "com/example/vellum_channels/vellumchannels/tool/FilledEntity") (pc' := 75) (a := b13) (W := 0) (argsL := [(.int off), (.int ln)]) (rest := []) X30 hx hby hZ hown (hw _ (List.mem_of_getElem? (i := 22) rfl)) (hw _ (List.mem_of_getElem? (i := 23) rfl)) (notFace_of_selects (args := #[]) (mvT hZ (hw _ (List.mem_of_getElem? (i := 25) rfl)))) (hw _ (List.mem_of_getElem? (i := 25) rfl)) (hw _ (List.mem_of_getElem? (i := 24) rfl)) (hw _ (List.mem_of_getElem? (i := 11) rfl)) (hw _ (List.mem_of_getElem? (i := 26) rfl)) (by decide) (rmR l Z a0 hw b13 off ln T28.heap h0.size ch.toInt8.toInt32 Z1 F1 (own_b8 ch) ho.1 ⟨hl.1, hl.2.1⟩ (by omega)) rfl E1 (by decide) (by decide) (by rw [hml]; rfl) pd_4 rfl rfl rfl (Nat.le_of_eq rfl) at_72 rfl (by decide) (by decide) ?_
  rintro r31 T32 L33 X34 ⟨r1, rfl, g1, N2, K2, A2⟩
  have Z2 : h0.size ≤ T32.heap.size := Nat.le_trans Z1 K2.1
  show Go p e below _ (T32.setTop (mkF m 75 #[.val (.int x0), .val (.int x1), .val (.int x2), .val (.int x3), .val (.int x4), .val (.int sz), .val (.int ln), .val (.long ((sz.toInt64 - ln.toInt64) + (1 : Int64))), .second, .val (.int off), .val (.int ch), .val (.ref b13), .unset, .unset, .unset, .unset, .unset] [(.ref r1)]))
  have E2 := E1.keep K2
  have F2 := F1.keep K2 nin0
  have gr1 : h0.size ≤ r1 := Nat.le_trans Z1 g1
  have n1 : b13 ≠ r1 := Nat.ne_of_lt (Nat.lt_of_lt_of_le E1.lt g1)
  refine Go.astore (Ls' := #[.val (.int x0), .val (.int x1), .val (.int x2), .val (.int x3), .val (.int x4), .val (.int sz), .val (.int ln), .val (.long ((sz.toInt64 - ln.toInt64) + (1 : Int64))), .second, .val (.int off), .val (.int ch), .val (.ref b13), .val (.ref r1), .unset, .unset, .unset, .unset]) (pc' := 77) X34 hx hby at_75 rfl rfl rfl ?_
  refine Go.aload (pc' := 79) X34 hx hby at_77 rfl rfl rfl ?_
  refine Go.alen (pc' := 80) (zv := ln) X34 hx hby hZ rfl A2 at_79 rfl rfl ?_
  refine Go.iload (pc' := 82) X34 hx hby at_80 rfl rfl ?_
  refine Go.icmpY (pc' := 87) X34 hx hby at_82 (by decide) (by decide) (show ln = ln from rfl) ?_
  refine Go.iload (pc' := 89) X34 hx hby at_87 rfl rfl ?_
  refine Go.if_ (pc' := 94) (pn := 92) X34 hx hby at_89 (by decide) (by decide) rfl (fun (cl : ln ≠ 0) => ?_) (fun (cl : ¬ (ln ≠ 0)) => ?_)
  ·
    have hp : 0 < ln.toInt := by have q : ln.toInt ≠ 0 := (fun q => cl (Int32.toInt_inj.mp (by rw [q, own_0]))); omega
    refine Go.iloadN (pc' := 95) X34 hx hby at_94 rfl rfl ?_
    refine Go.ldcI (pc' := 97) X34 hx hby at_95 rfl hown (mvT hZ (hw _ (List.mem_of_getElem? (i := 0) rfl))) ?_
    refine Go.iand (pc' := 98) X34 hx hby at_97 rfl ?_
    refine Go.iload (pc' := 100) X34 hx hby at_98 rfl rfl ?_
    refine Go.irem (pc' := 101) X34 hx hby at_100 rfl cl ?_
    refine Go.nmI (fun (i : Int32) (hi : i = (x3 &&& (2147483647 : Int32)) % ln) => ?_)
    have hi : 0 ≤ i.toInt ∧ i.toInt < ln.toInt := by rw [hi]; exact own_idx x3 ln hp
    refine Go.istore (Ls' := #[.val (.int x0), .val (.int x1), .val (.int x2), .val (.int x3), .val (.int x4), .val (.int sz), .val (.int ln), .val (.long ((sz.toInt64 - ln.toInt64) + (1 : Int64))), .second, .val (.int off), .val (.int ch), .val (.ref b13), .val (.ref r1), .val (.int i), .unset, .unset, .unset]) (pc' := 103) X34 hx hby at_101 rfl rfl ?_
    refine Go.iload (pc' := 105) X34 hx hby at_103 rfl rfl ?_
    refine Go.iload (pc' := 107) X34 hx hby at_105 rfl rfl ?_
    refine Go.iadd (pc' := 108) X34 hx hby at_107 rfl ?_
    refine Go.nmI (fun (pp : Int32) (hpp : pp = off + i) => ?_)
    have hpp' : pp.toInt = off.toInt + i.toInt := by rw [hpp]; have q1 := c_iadd off i; have q2 := rng32 (off + i); omega
    refine Go.istore (Ls' := #[.val (.int x0), .val (.int x1), .val (.int x2), .val (.int x3), .val (.int x4), .val (.int sz), .val (.int ln), .val (.long ((sz.toInt64 - ln.toInt64) + (1 : Int64))), .second, .val (.int off), .val (.int ch), .val (.ref b13), .val (.ref r1), .val (.int i), .val (.int pp), .unset, .unset]) (pc' := 110) X34 hx hby at_108 rfl rfl ?_
    refine Go.iload (pc' := 112) X34 hx hby at_110 rfl rfl ?_
    refine Go.iload (pc' := 114) X34 hx hby at_112 rfl rfl ?_
    refine Go.callS (pc' := 117) (W := 0) (argsL := [(.int pp), (.int ch)]) (rest := []) X34 hx hby hZ hown (hw _ (List.mem_of_getElem? (i := 32) rfl)) (hw _ (List.mem_of_getElem? (i := 33) rfl)) (hw _ (List.mem_of_getElem? (i := 34) rfl)) (hw _ (List.mem_of_getElem? (i := 35) rfl)) (by decide) (rmE l Z a0 hw pp ch _) rfl (by decide) (by decide) (by rw [hml]; rfl) pd_5 rfl rfl rfl (Nat.le_of_eq rfl) at_114 rfl (by decide) (by decide) ?_
    rintro r35 T36 L37 X38 ⟨rfl, rfl, e40⟩
    rw [List.append_nil] at X38
    show Go p e below _ (T36.setTop (mkF m 117 #[.val (.int x0), .val (.int x1), .val (.int x2), .val (.int x3), .val (.int x4), .val (.int sz), .val (.int ln), .val (.long ((sz.toInt64 - ln.toInt64) + (1 : Int64))), .second, .val (.int off), .val (.int ch), .val (.ref b13), .val (.ref r1), .val (.int i), .val (.int pp), .unset, .unset] [(.int (own_ex pp.toInt ch.toInt8.toInt32))]))
    refine Go.nmI (fun (ex : Int32) (hex : ex = own_ex pp.toInt ch.toInt8.toInt32) => ?_)
    refine Go.istore (Ls' := #[.val (.int x0), .val (.int x1), .val (.int x2), .val (.int x3), .val (.int x4), .val (.int sz), .val (.int ln), .val (.long ((sz.toInt64 - ln.toInt64) + (1 : Int64))), .second, .val (.int off), .val (.int ch), .val (.ref b13), .val (.ref r1), .val (.int i), .val (.int pp), .val (.int ex), .unset]) (pc' := 119) X38 hx hby at_117 rfl rfl ?_
    refine Go.aload (pc' := 121) X38 hx hby at_119 rfl rfl rfl ?_
    refine Go.iload (pc' := 123) X38 hx hby at_121 rfl rfl ?_
    refine Go.baload (pc' := 124) (i := i.toInt) (v := (.int (own_ex (off.toInt + i.toInt) ch.toInt8.toInt32))) X38 hx hby hZ e40 A2 at_123 rfl rfl hi.1 hi.2 rfl ?_
    refine Go.iload (pc' := 126) X38 hx hby at_124 rfl rfl ?_
    refine Go.icmpY (pc' := 131) X38 hx hby at_126 (by decide) (by decide) (show (own_ex (off.toInt + i.toInt) ch.toInt8.toInt32) = ex from by rw [hex, hpp']) ?_
    refine Go.aload (pc' := 133) X38 hx hby at_131 rfl rfl rfl ?_
    refine Go.iload (pc' := 135) X38 hx hby at_133 rfl rfl ?_
    refine Go.iload (pc' := 137) X38 hx hby at_135 rfl rfl ?_
    refine Go.iconst (pc' := 138) X38 hx hby at_137 rfl (v := (1 : Int32)) (by decide) ?_
    refine Go.iadd (pc' := 139) X38 hx hby at_138 rfl ?_
    refine Go.i2b (pc' := 140) X38 hx hby at_139 rfl ?_
    refine Go.bastore (pc' := 141) (i := i.toInt) X38 hx hby hZ e40 A2 at_140 rfl rfl hi.1 hi.2 ?_
    intro T41 h42 X43 e44 W45 A46
    show Go p e below _ (T41.setTop (mkF m 141 #[.val (.int x0), .val (.int x1), .val (.int x2), .val (.int x3), .val (.int x4), .val (.int sz), .val (.int ln), .val (.long ((sz.toInt64 - ln.toInt64) + (1 : Int64))), .second, .val (.int off), .val (.int ch), .val (.ref b13), .val (.ref r1), .val (.int i), .val (.int pp), .val (.int ex), .unset] []))
    have N3 : Fr h0.size _ := Fr.snoc X43 (Fr.app (Fr.app (Fr.nil _) N1) N2) gr1
    have Z3 : h0.size ≤ h42.size := by rw [Wr.size W45]; exact Z2
    have E3 := Exa.wr W45 E2
    have F3 := Fld.other W45 F2 (Or.inl n1)
    refine Go.aload (pc' := 143) X43 hx hby at_141 rfl rfl rfl ?_
    refine Go.iload (pc' := 145) X43 hx hby at_143 rfl rfl ?_
    refine Go.iload (pc' := 147) X43 hx hby at_145 rfl rfl ?_
    refine Go.callV (C := "com/example/vellum_channels/vellumchannels/tool/FilledEntity") (pc' := 150) (a := b13) (W := 0) (argsL := [(.int off), (.int ln)]) (rest := []) X43 hx hby hZ hown (hw _ (List.mem_of_getElem? (i := 22) rfl)) (hw _ (List.mem_of_getElem? (i := 23) rfl)) (notFace_of_selects (args := #[]) (mvT hZ (hw _ (List.mem_of_getElem? (i := 25) rfl)))) (hw _ (List.mem_of_getElem? (i := 25) rfl)) (hw _ (List.mem_of_getElem? (i := 24) rfl)) (hw _ (List.mem_of_getElem? (i := 11) rfl)) (hw _ (List.mem_of_getElem? (i := 26) rfl)) (by decide) (rmR l Z a0 hw b13 off ln h42 h0.size ch.toInt8.toInt32 Z3 F3 (own_b8 ch) ho.1 ⟨hl.1, hl.2.1⟩ (by omega)) e44 E3 (by decide) (by decide) (by rw [hml]; rfl) pd_4 rfl rfl rfl (Nat.le_of_eq rfl) at_147 rfl (by decide) (by decide) ?_
    rintro r47 T48 L49 X50 ⟨r2, rfl, g2, N4, K4, A4⟩
    show Go p e below _ (T48.setTop (mkF m 150 #[.val (.int x0), .val (.int x1), .val (.int x2), .val (.int x3), .val (.int x4), .val (.int sz), .val (.int ln), .val (.long ((sz.toInt64 - ln.toInt64) + (1 : Int64))), .second, .val (.int off), .val (.int ch), .val (.ref b13), .val (.ref r1), .val (.int i), .val (.int pp), .val (.int ex), .unset] [(.ref r2)]))
    refine Go.astore (Ls' := #[.val (.int x0), .val (.int x1), .val (.int x2), .val (.int x3), .val (.int x4), .val (.int sz), .val (.int ln), .val (.long ((sz.toInt64 - ln.toInt64) + (1 : Int64))), .second, .val (.int off), .val (.int ch), .val (.ref b13), .val (.ref r1), .val (.int i), .val (.int pp), .val (.int ex), .val (.ref r2)]) (pc' := 152) X50 hx hby at_150 rfl rfl rfl ?_
    refine Go.aload (pc' := 154) X50 hx hby at_152 rfl rfl rfl ?_
    refine Go.alen (pc' := 155) (zv := ln) X50 hx hby hZ rfl A4 at_154 rfl rfl ?_
    refine Go.iload (pc' := 157) X50 hx hby at_155 rfl rfl ?_
    refine Go.icmpN (pc' := 160) X50 hx hby at_157 rfl (show ¬ (ln ≠ ln) from fun q => q rfl) ?_
    refine Go.aload (pc' := 162) X50 hx hby at_160 rfl rfl rfl ?_
    refine Go.iload (pc' := 164) X50 hx hby at_162 rfl rfl ?_
    refine Go.baload (pc' := 165) (i := i.toInt) (v := (.int (own_ex (off.toInt + i.toInt) ch.toInt8.toInt32))) X50 hx hby hZ rfl A4 at_164 rfl rfl hi.1 hi.2 rfl ?_
    refine Go.iload (pc' := 167) X50 hx hby at_165 rfl rfl ?_
    refine Go.icmpN (pc' := 170) X50 hx hby at_167 rfl (show ¬ ((own_ex (off.toInt + i.toInt) ch.toInt8.toInt32) ≠ ex) from fun q => q (by rw [hex, hpp'])) ?_
    refine Go.iconst (pc' := 171) X50 hx hby at_170 rfl (v := (1 : Int32)) (by decide) ?_
    refine Go.goto (pc' := 175) X50 hx hby at_171 (by decide) (by decide) ?_
    exact Go.retZ X50 hx hby hlk hret (by simp) at_175 (by decide) (by decide) ⟨rfl, (Fr.app N3 N4)⟩
  ·
    refine Go.iconst (pc' := 93) X34 hx hby at_92 rfl (v := (1 : Int32)) (by decide) ?_
    exact Go.retZ X34 hx hby hlk hret (by simp) at_93 (by decide) (by decide) ⟨rfl, (Fr.app (Fr.app (Fr.nil _) N1) N2)⟩
set_option maxRecDepth 65536 in
set_option maxHeartbeats 40000000 in
theorem comes_1 {Post : Tables → Env → Array Value → State → Outcome → State → Prop} (hpost : ∀ tb e args s v u, (limb_1_1.after args s (.returned v) u = true ∧ limb_1_2.after args s (.returned v) u = true ∧ True) → FrameEnd s (.returned v) u (Jvm.fieldLocs frame_1_writes args s ++ Jvm.arrayLocs frame_1_arrays args s ++ Jvm.staticLocs frame_1_statics s) 16 128 → Post tb e args s (.returned v) u) :
    ArmFor flags0 classFile x code maxLocals ret World_1 tables_1 room_1 Calls_1 rest_1 Pre_1 Post := by
  intro l hfl _ _ p e ha hc hk s m args below hf hA hF happ hP
  obtain ⟨hcalls, hrest, hpre⟩ := hP
  obtain ⟨-, -, -, hnamed, -, -, -, hat⟩ := (Spec.applies_iff hf).mp happ
  obtain ⟨hg, hn⟩ := and_e (Cond.before_iff.mp (show (Jvm.Cond.and given_1 narrow_1).before args s = true from hpre))
  obtain ⟨h1, g0⟩ := and_e hg
  obtain ⟨w0, w1, w2, w3, w4, rfl⟩ : ∃ w0 w1 w2 w3 w4 : Value, args = #[w0, w1, w2, w3, w4] := by
    have hs : args.size = 5 := by simpa [Cond.value, given_1] using h1
    obtain ⟨L⟩ := args
    match L, hs with
    | [w0, w1, w2, w3, w4], _ => exact ⟨w0, w1, w2, w3, w4, rfl⟩
  have hw := fun d (hd : d ∈ tables_1) => atoms_spec (ws := Jvm.Cond.code x code maxLocals ret :: tables_1) hat d (List.mem_cons_of_mem _ hd)
  have hfit : Fit s := fun {y c} hc i hi => by
    obtain ⟨ha, rfl⟩ := Array.getElem?_eq_some_iff.mp hc
    have q := List.all_eq_true.mp ((Array.all_eq_true_iff_forall_mem.mp hF) _ (Array.getElem_mem ha)) i (List.mem_range.mpr hi)
    simpa [Array.getElem?_eq_getElem hi] using q
  obtain ⟨k0, g1⟩ := and_e g0
  obtain ⟨i0, e0⟩ := is_v k0
  obtain rfl : w0 = (.int i0) := Option.some.inj e0
  obtain ⟨k1, g2⟩ := and_e g1
  obtain ⟨i1, e1⟩ := is_v k1
  obtain rfl : w1 = (.int i1) := Option.some.inj e1
  obtain ⟨k2, g3⟩ := and_e g2
  obtain ⟨i2, e2⟩ := is_v k2
  obtain rfl : w2 = (.int i2) := Option.some.inj e2
  obtain ⟨k3, g4⟩ := and_e g3
  obtain ⟨i3, e3⟩ := is_v k3
  obtain rfl : w3 = (.int i3) := Option.some.inj e3
  obtain ⟨i4, e4⟩ := is_v g4
  obtain rfl : w4 = (.int i4) := Option.some.inj e4
  obtain ⟨n, o, h1, h2, h3, _, L, rfl, ⟨rfl, N⟩, hq⟩ := rm0 l s _ hw i0 i1 i2 i3 i4 s.heap p e ha hc hk s m _ below hf ((Spec.applies_iff_loose hf).mp happ).1 ⟨rfl, State.Warmed39.refl s, rfl⟩ trivial
  refine ⟨n, _, h1, h2, h3, hpost _ _ _ _ _ _ ⟨Cond.after_iff.mpr rfl, Cond.after_iff.mpr (eq_i res_at (Term.int_eval (1)) rfl), trivial⟩ ⟨hq.1, hq.2.1, (hq.2.2.sift fun y hy => Or.inr (N y hy)).mono (by decide) (by decide)⟩⟩
theorem main_1_1 : Claimed_1_1 := comes_1 fun _ _ _ _ _ _ h hF => ⟨h.1, hF⟩
theorem main_1_2 : Claimed_1_2 := comes_1 fun _ _ _ _ _ _ h hF => ⟨h.2.1, hF⟩
end Jvm.Pilot.@@N@@
namespace Jvm.Pilot.@@N@@
open Jvm Jvm.ClassFile Sem Op Lib Jvm.Free Jvm.Stand Jvm.Pilot.@@N@@.Jvm.D
/-! MADE BY PROGRAM (witnessworld.py) out of the Statement's table words and the real class files: 12 classes; the members and pool entries that the words name. The judged class is class 1, her method 2. -/
namespace start1
open Jvm.ClassFile
def u (s : String) : CpInfo := .utf8 (stringToUtf16 s)
/-- a pool by its gaps: so many unusable entries, then the entry; so many at the end -/
def gap : Nat → List CpInfo → List CpInfo
  | 0, r => r
  | n + 1, r => .unusable :: gap n r
def poolList (es : List (Nat × CpInfo)) (last : Nat) : List CpInfo := es.foldr (fun e r => gap e.1 (e.2 :: r)) (gap last [])
def pool (es : List (Nat × CpInfo)) (last : Nat) : Array CpInfo := ⟨poolList es last⟩
def fileOf (pool : Array CpInfo) (this : Nat) (attrs : Array Attribute := #[]) (ms : Array MethodInfo := #[]) (fl : Nat := 33) (sup : Nat := 0) (ifs : Array Nat := #[]) (fds : Array FieldInfo := #[]) : ClassFile where
  minorVersion := 0
  majorVersion := 65
  constantPool := pool
  accessFlags := fl
  thisClass := this
  superClass := sup
  interfaces := ifs
  fields := fds
  methods := ms
  attributes := attrs
def plain (name : String) (sup : Option ClassId) : Class where
  name := name
  kind := .ordinary
  loader := none
  accessFlags := 33
  super := sup
  interfaces := #[]
  cf := none
  fields := #[]
  methods := #[]
  instanceTypes := #[]
  staticTypes := #[]
  resolved := #[]
  callSites := []
  init := .initialized
  statics := none
  mirror := none

def pool0 : Array CpInfo := pool [(5, u "<init>"), (0, u "()V"), (1, .class_ 10), (1, u "java/lang/Object")] 113

def k0c0 : Code := { maxStack := 0, maxLocals := 1, code := object_method_1_code, exceptionTable := #[], attributes := #[] }
def k0m0 : Method := { name := "<init>", desc := "()V", sig := { parameters := [], returnType := none }, accessFlags := 1, code := some k0c0 }
/-- java/lang/Object -/
def k0 : Class := { plain "java/lang/Object" none with
  accessFlags := 33
  interfaces := #[]
  cf := some (fileOf pool0 8 #[] #[{ accessFlags := 1, nameIndex := 5, descriptorIndex := 6, attributes := #[] }] 33 0 #[] #[])
  fields := #[]
  methods := #[k0m0]
  instanceTypes := #[]
  staticTypes := #[]
  resolved := Array.replicate 124 none
  statics := none }

def pool1 : Array CpInfo := pool [(2, .class_ 4), (1, u "java/lang/Object"), (0, u "<init>"), (0, u "()V"), (0, .integer 2147483647), (0, .methodref 9 10), (0, .class_ 11), (0, .nameAndType 12 13), (0, u "java/lang/Math"), (0, u "max"), (0, u "(II)I"), (0, .methodref 9 15), (0, .nameAndType 16 13), (0, u "min"), (0, .long 2147483647), (1, .class_ 20), (0, u "com/example/vellum_channels/vellumchannels/tool/FilledEntity"), (0, .methodref 19 22), (0, .nameAndType 5 23), (0, u "(IC)V"), (0, .methodref 19 25), (0, .nameAndType 26 27), (0, u "read"), (0, u "(II)[B"), (0, .methodref 29 30), (0, .class_ 31), (0, .nameAndType 32 33), (0, u "com/example/vellum_channels/vellumchannels/tool/FilledEntityReadPinLaw"), (0, u "expected"), (0, u "(IC)B"), (3, u "law"), (0, u "(IIIII)Z")] 4

def k1m0 : Method := { name := "<init>", desc := "()V", sig := { parameters := [], returnType := none }, accessFlags := 2, code := none }
def k1c1 : Code := { maxStack := 2, maxLocals := 2, code := method_2_code, exceptionTable := #[], attributes := #[] }
def k1m1 : Method := { name := "expected", desc := "(IC)B", sig := { parameters := [.int, .char], returnType := some .byte }, accessFlags := 10, code := some k1c1 }
def k1c2 : Code := { maxStack := 4, maxLocals := 17, code := code, exceptionTable := #[], attributes := #[] }
def k1m2 : Method := { name := "law", desc := "(IIIII)Z", sig := { parameters := [.int, .int, .int, .int, .int], returnType := some .boolean }, accessFlags := 9, code := some k1c2 }
/-- com/example/vellum_channels/vellumchannels/tool/FilledEntityReadPinLaw -/
def k1 : Class := { plain "com/example/vellum_channels/vellumchannels/tool/FilledEntityReadPinLaw" (some 0) with
  accessFlags := 49
  interfaces := #[]
  cf := some (fileOf pool1 29 #[] #[{ accessFlags := 2, nameIndex := 5, descriptorIndex := 6, attributes := #[] }, { accessFlags := 10, nameIndex := 32, descriptorIndex := 33, attributes := #[] }, { accessFlags := 9, nameIndex := 37, descriptorIndex := 38, attributes := #[] }] 49 2 #[] #[])
  fields := #[]
  methods := #[k1m0, k1m1, k1m2]
  instanceTypes := #[]
  staticTypes := #[]
  resolved := Array.replicate 43 none
  statics := none }

def pool2 : Array CpInfo := pool [(1, .class_ 2), (0, u "java/lang/Math"), (1, .class_ 6), (1, u "java/lang/Object"), (0, u "<init>"), (0, u "()V"), (89, .class_ 100), (1, u "java/lang/Math$RandomNumberGeneratorHolder"), (71, u "negativeZeroFloatBits"), (0, u "J"), (2, u "negativeZeroDoubleBits"), (21, u "max"), (2, u "min"), (43, u "$assertionsDisabled"), (0, u "Z"), (88, u "(II)I"), (2, u "twoToTheDoubleScaleDown"), (0, u "D"), (4, u "twoToTheDoubleScaleUp"), (9, u "E"), (3, u "PI"), (2, u "TAU"), (2, u "DEGREES_TO_RADIANS"), (0, u "RADIANS_TO_DEGREES")] 94

def k2m0 : Method := { name := "<init>", desc := "()V", sig := { parameters := [], returnType := none }, accessFlags := 2, code := none }
def k2c1 : Code := { maxStack := 2, maxLocals := 2, code := jdk_29_method_65_code, exceptionTable := #[], attributes := #[] }
def k2m1 : Method := { name := "max", desc := "(II)I", sig := { parameters := [.int, .int], returnType := some .int }, accessFlags := 9, code := some k2c1 }
def k2c2 : Code := { maxStack := 2, maxLocals := 2, code := jdk_29_method_69_code, exceptionTable := #[], attributes := #[] }
def k2m2 : Method := { name := "min", desc := "(II)I", sig := { parameters := [.int, .int], returnType := some .int }, accessFlags := 9, code := some k2c2 }
/-- java/lang/Math -/
def k2 : Class := { plain "java/lang/Math" (some 0) with
  accessFlags := 49
  interfaces := #[]
  cf := some (fileOf pool2 1 #[.nestMembers #[98]] #[{ accessFlags := 2, nameIndex := 7, descriptorIndex := 8, attributes := #[] }, { accessFlags := 9, nameIndex := 198, descriptorIndex := 335, attributes := #[] }, { accessFlags := 9, nameIndex := 201, descriptorIndex := 335, attributes := #[] }] 49 4 #[] #[{ accessFlags := 25, nameIndex := 354, descriptorIndex := 339, attributes := #[] }, { accessFlags := 25, nameIndex := 358, descriptorIndex := 339, attributes := #[] }, { accessFlags := 25, nameIndex := 361, descriptorIndex := 339, attributes := #[] }, { accessFlags := 26, nameIndex := 364, descriptorIndex := 339, attributes := #[] }, { accessFlags := 26, nameIndex := 365, descriptorIndex := 339, attributes := #[] }, { accessFlags := 26, nameIndex := 172, descriptorIndex := 173, attributes := #[] }, { accessFlags := 26, nameIndex := 176, descriptorIndex := 173, attributes := #[] }, { accessFlags := 8, nameIndex := 344, descriptorIndex := 339, attributes := #[] }, { accessFlags := 8, nameIndex := 338, descriptorIndex := 339, attributes := #[] }, { accessFlags := 4120, nameIndex := 245, descriptorIndex := 246, attributes := #[] }])
  fields := #[{ name := "E", type := .double, accessFlags := 25, slot := 0, constantValue := 0 }, { name := "PI", type := .double, accessFlags := 25, slot := 1, constantValue := 0 }, { name := "TAU", type := .double, accessFlags := 25, slot := 2, constantValue := 0 }, { name := "DEGREES_TO_RADIANS", type := .double, accessFlags := 26, slot := 3, constantValue := 0 }, { name := "RADIANS_TO_DEGREES", type := .double, accessFlags := 26, slot := 4, constantValue := 0 }, { name := "negativeZeroFloatBits", type := .long, accessFlags := 26, slot := 5, constantValue := 0 }, { name := "negativeZeroDoubleBits", type := .long, accessFlags := 26, slot := 6, constantValue := 0 }, { name := "twoToTheDoubleScaleUp", type := .double, accessFlags := 8, slot := 7, constantValue := 0 }, { name := "twoToTheDoubleScaleDown", type := .double, accessFlags := 8, slot := 8, constantValue := 0 }, { name := "$assertionsDisabled", type := .boolean, accessFlags := 4120, slot := 9, constantValue := 0 }]
  methods := #[k2m0, k2m1, k2m2]
  instanceTypes := #[]
  staticTypes := #[.double, .double, .double, .double, .double, .long, .long, .double, .double, .boolean]
  resolved := Array.replicate 460 none
  statics := none }

def pool3 : Array CpInfo := pool [(2, .class_ 4), (1, u "com/example/vellum_channels/vellumchannels/session/Payload"), (8, .class_ 14), (0, u "com/example/vellum_channels/vellumchannels/session/Payload$1"), (4, .class_ 20), (0, u "java/lang/Object")] 12

/-- com/example/vellum_channels/vellumchannels/session/Payload -/
def k3 : Class := { plain "com/example/vellum_channels/vellumchannels/session/Payload" (some 0) with
  accessFlags := 1537
  interfaces := #[]
  cf := some (fileOf pool3 2 #[.nestMembers #[13]] #[] 1537 19 #[] #[])
  fields := #[]
  methods := #[]
  instanceTypes := #[]
  staticTypes := #[]
  resolved := Array.replicate 33 none
  statics := none }

def pool4 : Array CpInfo := pool [(1, .methodref 2 3), (0, .class_ 4), (0, .nameAndType 5 6), (0, u "java/lang/Object"), (0, u "<init>"), (0, u "()V"), (0, .class_ 8), (0, u "com/example/vellum_channels/vellumchannels/tool/FilledEntity"), (7, .fieldref 7 17), (0, .nameAndType 18 19), (0, u "size"), (0, u "I"), (0, .fieldref 7 21), (0, .nameAndType 22 23), (0, u "letter"), (0, u "B"), (0, .methodref 25 26), (0, .class_ 27), (0, .nameAndType 28 29), (0, u "java/util/Arrays"), (0, u "fill"), (0, u "([BB)V"), (2, u "read"), (0, u "(II)[B"), (0, .class_ 35), (0, u "com/example/vellum_channels/vellumchannels/session/Payload"), (0, u "MIN_SIZE"), (2, u "(IC)V")] 10

def k4c0 : Code := { maxStack := 3, maxLocals := 3, code := prog_39_method_1_code, exceptionTable := #[], attributes := #[] }
def k4m0 : Method := { name := "<init>", desc := "(IC)V", sig := { parameters := [.int, .char], returnType := none }, accessFlags := 0, code := some k4c0 }
def k4c1 : Code := { maxStack := 3, maxLocals := 5, code := prog_39_method_3_code, exceptionTable := #[], attributes := #[] }
def k4m1 : Method := { name := "read", desc := "(II)[B", sig := { parameters := [.int, .int], returnType := some (.array .byte) }, accessFlags := 1, code := some k4c1 }
/-- com/example/vellum_channels/vellumchannels/tool/FilledEntity -/
def k4 : Class := { plain "com/example/vellum_channels/vellumchannels/tool/FilledEntity" (some 0) with
  accessFlags := 48
  interfaces := #[3]
  cf := some (fileOf pool4 7 #[] #[{ accessFlags := 0, nameIndex := 5, descriptorIndex := 39, attributes := #[] }, { accessFlags := 1, nameIndex := 32, descriptorIndex := 33, attributes := #[] }] 48 2 #[34] #[{ accessFlags := 24, nameIndex := 36, descriptorIndex := 19, attributes := #[] }, { accessFlags := 18, nameIndex := 18, descriptorIndex := 19, attributes := #[] }, { accessFlags := 18, nameIndex := 22, descriptorIndex := 23, attributes := #[] }])
  fields := #[{ name := "MIN_SIZE", type := .int, accessFlags := 24, slot := 0, constantValue := 0 }, { name := "size", type := .int, accessFlags := 18, slot := 0, constantValue := 0 }, { name := "letter", type := .byte, accessFlags := 18, slot := 1, constantValue := 0 }]
  methods := #[k4m0, k4m1]
  instanceTypes := #[.int, .byte]
  staticTypes := #[.int]
  resolved := Array.replicate 50 none
  statics := none }

def pool5 : Array CpInfo := pool [(2, .class_ 4), (1, u "java/lang/Object"), (0, u "<init>"), (0, u "()V"), (7, .class_ 16), (1, u "java/util/Arrays"), (57, .class_ 76), (1, u "java/util/Arrays$NaturalOrder"), (36, .class_ 115), (1, u "java/util/Arrays$LegacyMergeSort"), (1, u "Z"), (257, .class_ 376), (0, u "java/util/Arrays$ArrayList"), (68, u "$assertionsDisabled"), (269, u "MIN_ARRAY_SORT_GRAN"), (0, u "I"), (2, u "INSERTIONSORT_THRESHOLD"), (120, u "fill"), (9, u "([BB)V"), (124, .class_ 976), (0, u "java/util/Arrays$ArrayItr")] 52

def k5m0 : Method := { name := "<init>", desc := "()V", sig := { parameters := [], returnType := none }, accessFlags := 2, code := none }
def k5c1 : Code := { maxStack := 3, maxLocals := 4, code := jdk_65_method_109_code, exceptionTable := #[], attributes := #[] }
def k5m1 : Method := { name := "fill", desc := "([BB)V", sig := { parameters := [(.array .byte), .byte], returnType := none }, accessFlags := 9, code := some k5c1 }
/-- java/util/Arrays -/
def k5 : Class := { plain "java/util/Arrays" (some 0) with
  accessFlags := 49
  interfaces := #[]
  cf := some (fileOf pool5 14 #[.nestMembers #[975, 375, 113, 74]] #[{ accessFlags := 2, nameIndex := 5, descriptorIndex := 6, attributes := #[] }, { accessFlags := 9, nameIndex := 840, descriptorIndex := 850, attributes := #[] }] 49 2 #[] #[{ accessFlags := 26, nameIndex := 715, descriptorIndex := 716, attributes := #[] }, { accessFlags := 26, nameIndex := 719, descriptorIndex := 716, attributes := #[] }, { accessFlags := 4120, nameIndex := 445, descriptorIndex := 117, attributes := #[] }])
  fields := #[{ name := "MIN_ARRAY_SORT_GRAN", type := .int, accessFlags := 26, slot := 0, constantValue := 0 }, { name := "INSERTIONSORT_THRESHOLD", type := .int, accessFlags := 26, slot := 1, constantValue := 0 }, { name := "$assertionsDisabled", type := .boolean, accessFlags := 4120, slot := 2, constantValue := 0 }]
  methods := #[k5m0, k5m1]
  instanceTypes := #[]
  staticTypes := #[.int, .int, .boolean]
  resolved := Array.replicate 1029 none
  statics := none }

def pool6 : Array CpInfo := pool [(1, u "java/lang/Cloneable"), (0, .class_ 1), (0, u "java/lang/Object"), (0, .class_ 3)] 3

/-- java/lang/Cloneable -/
def k6 : Class := { plain "java/lang/Cloneable" (some 0) with
  accessFlags := 1537
  interfaces := #[]
  cf := some (fileOf pool6 2 #[] #[] 1537 4 #[] #[])
  fields := #[]
  methods := #[]
  instanceTypes := #[]
  staticTypes := #[]
  resolved := Array.replicate 8 none
  statics := none }

def pool7 : Array CpInfo := pool [(1, u "java/io/Serializable"), (0, .class_ 1), (0, u "java/lang/Object"), (0, .class_ 3)] 3

/-- java/io/Serializable -/
def k7 : Class := { plain "java/io/Serializable" (some 0) with
  accessFlags := 1537
  interfaces := #[]
  cf := some (fileOf pool7 2 #[] #[] 1537 4 #[] #[])
  fields := #[]
  methods := #[]
  instanceTypes := #[]
  staticTypes := #[]
  resolved := Array.replicate 8 none
  statics := none }

/-- the primitive byte -/
def k8 : Class := { plain "byte" none with kind := .primitive 'B', accessFlags := 0x411 }
/-- [B -/
def k9 : Class := { plain "[B" (some 0) with kind := .array 8 .byte, interfaces := #[6, 7], accessFlags := 1041 }

/-- the primitive int -/
def k10 : Class := { plain "int" none with kind := .primitive 'I', accessFlags := 0x411 }
/-- [I -/
def k11 : Class := { plain "[I" (some 0) with kind := .array 10 .int, interfaces := #[6, 7], accessFlags := 1041 }

def heap : Heap := #[]
def classes : Array Class := #[k0, k1, k2, k3, k4, k5, k6, k7, k8, k9, k10, k11]
def interned : List (Array UInt16 × Addr) := []
def slotsUsed : Nat := 0
def theMethod : MethodId := ⟨1, 2⟩
def args0 : Array Value := #[.int 5, .int 3, .int 2, .int 7, .int 1]
def aboutOver (below : List Frame) : State where
  vm := { classes := classes, interned := interned.toArray }
  heap := heap
  slotsUsed := slotsUsed
  threads := #[{ frames := .invoking theMethod args0 :: below }]
def below0 : List Frame := [.native { method := ⟨0, 0⟩, args := #[] }]
def about1 : State := aboutOver below0
def p0 : Program := .bare "" "" ""
def e0 : Env := launch0.env 0 0 0
theorem w_frames : about1.frames = Frame.invoking theMethod args0 :: below0 := rfl
set_option maxRecDepth 65536 in
theorem w_args : argsFit about1.vm theMethod args0 = true := by decide +kernel
set_option maxRecDepth 65536 in
theorem w_heap : heapFits about1 = true := by decide +kernel
set_option maxRecDepth 65536 in
theorem w_runnable : about1.curStatus? = some .runnable := by decide +kernel
set_option maxRecDepth 65536 in
theorem w_alone : about1.alone = true := by decide +kernel
set_option maxRecDepth 65536 in
theorem w_named : about1.methodNamed? x = some theMethod := by decide +kernel
set_option maxRecDepth 65536 in
theorem w_hears : about1.hears theMethod below0 = true := by decide +kernel
set_option maxRecDepth 65536 in
theorem w_ripe : about1.ripe theMethod args0 below0 = true := by decide +kernel
theorem w_running : about1.status = .running := rfl
set_option maxRecDepth 65536 in
theorem w_room : about1.hasRoom e0.platform room_1 = true :=
  launch0.hasRoom_least _ room_1 (by decide +kernel) (by decide +kernel) (by decide +kernel) (by decide +kernel) (by decide +kernel) (by decide +kernel)
theorem allAtoms_all (ts : List Jvm.Cond) (a : Array Jvm.Value) (st : Jvm.State) : (allAtoms ts).before a st = ts.all (fun c => c.before a st) := by
  induction ts with
  | nil => rfl
  | cons c t ih =>
    show (Jvm.Cond.and c (allAtoms t)).before a st = _
    rw [Jvm.Cond.before_and, ih, List.all_cons]
def words1 : List Jvm.Cond := Jvm.Cond.code x code maxLocals ret :: tables_1
/-- a 'code' word, met by the world's own term for the bytes: nothing is compared byte by byte -/
theorem code_word {y : MethodName} {bytes : ByteArray} {mx : Nat} {rt : Option FieldType} {a : Array Value} {s : State} {m : MethodId} {meth : Method} {c : Code} (h1 : s.methodNamed? y = some m) (h2 : s.vm.method? m = some meth) (h3 : meth.code = some c) (h4 : c.code = bytes)
    (h5 : (c.maxLocals == mx && c.exceptionTable.isEmpty && decide (c.maxStack ≤ mostOperands) && decide (meth.sig.returnType = rt) && !meth.locks && decide (parseMethodDescriptor y.desc = some meth.sig)) = true) : (Jvm.Cond.code y bytes mx rt).before a s = true := by
  simp only [Bool.and_eq_true, beq_iff_eq, Bool.not_eq_true', decide_eq_true_eq] at h5
  obtain ⟨⟨⟨⟨⟨g1, g2⟩, g3⟩, g4⟩, g5⟩, g6⟩ := h5
  simp [Cond.before, Cond.holds, Cond.value, h1, h2, h3, h4, g1, g2, g3, g4, g5, g6]
def isCode : Jvm.Cond → Bool
  | .code _ _ _ _ => true
  | _ => false
theorem all_split {L : List Jvm.Cond} {P : Jvm.Cond → Bool} (h1 : L.all (fun c => isCode c || P c) = true) (h2 : ∀ c ∈ L.filter isCode, P c = true) : L.all P = true := by
  refine List.all_eq_true.mpr fun c hc => ?_
  have h := List.all_eq_true.mp h1 c hc
  rcases Bool.eq_false_or_eq_true (isCode c) with hi | hi
  · exact h2 c (List.mem_filter.mpr ⟨hc, hi⟩)
  · simpa [hi] using h
set_option maxRecDepth 65536 in
theorem w_c0 : (Jvm.Cond.code x code maxLocals ret).before args0 about1 = true := code_word (m := ⟨1, 2⟩) (meth := k1m2) (c := k1c2) (by decide +kernel) rfl rfl rfl (by decide +kernel)
set_option maxRecDepth 65536 in
theorem w_c1 : (Jvm.Cond.code ({ cls := "java/lang/Math", name := "max", desc := "(II)I" } : Jvm.MethodName) jdk_29_method_65_code (2 : Nat) (Option.some Jvm.ClassFile.FieldType.int)).before args0 about1 = true := code_word (m := ⟨2, 1⟩) (meth := k2m1) (c := k2c1) (by decide +kernel) rfl rfl rfl (by decide +kernel)
set_option maxRecDepth 65536 in
theorem w_c2 : (Jvm.Cond.code ({ cls := "java/lang/Math", name := "min", desc := "(II)I" } : Jvm.MethodName) jdk_29_method_69_code (2 : Nat) (Option.some Jvm.ClassFile.FieldType.int)).before args0 about1 = true := code_word (m := ⟨2, 2⟩) (meth := k2m2) (c := k2c2) (by decide +kernel) rfl rfl rfl (by decide +kernel)
set_option maxRecDepth 65536 in
theorem w_c3 : (Jvm.Cond.code ({ cls := "com/example/vellum_channels/vellumchannels/tool/FilledEntity", name := "<init>", desc := "(IC)V" } : Jvm.MethodName) prog_39_method_1_code (3 : Nat) (Option.none : Option Jvm.ClassFile.FieldType)).before args0 about1 = true := code_word (m := ⟨4, 0⟩) (meth := k4m0) (c := k4c0) (by decide +kernel) rfl rfl rfl (by decide +kernel)
set_option maxRecDepth 65536 in
theorem w_c4 : (Jvm.Cond.code ({ cls := "java/lang/Object", name := "<init>", desc := "()V" } : Jvm.MethodName) object_method_1_code (1 : Nat) (Option.none : Option Jvm.ClassFile.FieldType)).before args0 about1 = true := code_word (m := ⟨0, 0⟩) (meth := k0m0) (c := k0c0) (by decide +kernel) rfl rfl rfl (by decide +kernel)
set_option maxRecDepth 65536 in
theorem w_c5 : (Jvm.Cond.code ({ cls := "com/example/vellum_channels/vellumchannels/tool/FilledEntity", name := "read", desc := "(II)[B" } : Jvm.MethodName) prog_39_method_3_code (5 : Nat) (Option.some (Jvm.ClassFile.FieldType.array Jvm.ClassFile.FieldType.byte))).before args0 about1 = true := code_word (m := ⟨4, 1⟩) (meth := k4m1) (c := k4c1) (by decide +kernel) rfl rfl rfl (by decide +kernel)
set_option maxRecDepth 65536 in
theorem w_c6 : (Jvm.Cond.code ({ cls := "java/util/Arrays", name := "fill", desc := "([BB)V" } : Jvm.MethodName) jdk_65_method_109_code (4 : Nat) (Option.none : Option Jvm.ClassFile.FieldType)).before args0 about1 = true := code_word (m := ⟨5, 1⟩) (meth := k5m1) (c := k5c1) (by decide +kernel) rfl rfl rfl (by decide +kernel)
set_option maxRecDepth 65536 in
theorem w_c7 : (Jvm.Cond.code ({ cls := "com/example/vellum_channels/vellumchannels/tool/FilledEntityReadPinLaw", name := "expected", desc := "(IC)B" } : Jvm.MethodName) method_2_code (2 : Nat) (Option.some Jvm.ClassFile.FieldType.byte)).before args0 about1 = true := code_word (m := ⟨1, 1⟩) (meth := k1m1) (c := k1c1) (by decide +kernel) rfl rfl rfl (by decide +kernel)
def codes1 : List Jvm.Cond := [Jvm.Cond.code x code maxLocals ret, Jvm.Cond.code ({ cls := "java/lang/Math", name := "max", desc := "(II)I" } : Jvm.MethodName) jdk_29_method_65_code (2 : Nat) (Option.some Jvm.ClassFile.FieldType.int), Jvm.Cond.code ({ cls := "java/lang/Math", name := "min", desc := "(II)I" } : Jvm.MethodName) jdk_29_method_69_code (2 : Nat) (Option.some Jvm.ClassFile.FieldType.int), Jvm.Cond.code ({ cls := "com/example/vellum_channels/vellumchannels/tool/FilledEntity", name := "<init>", desc := "(IC)V" } : Jvm.MethodName) prog_39_method_1_code (3 : Nat) (Option.none : Option Jvm.ClassFile.FieldType), Jvm.Cond.code ({ cls := "java/lang/Object", name := "<init>", desc := "()V" } : Jvm.MethodName) object_method_1_code (1 : Nat) (Option.none : Option Jvm.ClassFile.FieldType), Jvm.Cond.code ({ cls := "com/example/vellum_channels/vellumchannels/tool/FilledEntity", name := "read", desc := "(II)[B" } : Jvm.MethodName) prog_39_method_3_code (5 : Nat) (Option.some (Jvm.ClassFile.FieldType.array Jvm.ClassFile.FieldType.byte)), Jvm.Cond.code ({ cls := "java/util/Arrays", name := "fill", desc := "([BB)V" } : Jvm.MethodName) jdk_65_method_109_code (4 : Nat) (Option.none : Option Jvm.ClassFile.FieldType), Jvm.Cond.code ({ cls := "com/example/vellum_channels/vellumchannels/tool/FilledEntityReadPinLaw", name := "expected", desc := "(IC)B" } : Jvm.MethodName) method_2_code (2 : Nat) (Option.some Jvm.ClassFile.FieldType.byte)]
set_option maxRecDepth 65536 in
theorem codes_eq : words1.filter isCode = codes1 := rfl
theorem w_codes : ∀ c ∈ words1.filter isCode, c.before args0 about1 = true := by
  rw [codes_eq]
  intro c hc
  simp only [codes1, List.mem_cons, List.not_mem_nil, or_false] at hc
  rcases hc with rfl | rfl | rfl | rfl | rfl | rfl | rfl | rfl
  · exact w_c0
  · exact w_c1
  · exact w_c2
  · exact w_c3
  · exact w_c4
  · exact w_c5
  · exact w_c6
  · exact w_c7
set_option maxRecDepth 65536 in
theorem w_t1 : (words1.take 24).all (fun c => isCode c || c.before args0 about1) = true := by decide +kernel
set_option maxRecDepth 65536 in
theorem w_t2 : (words1.drop 24).all (fun c => isCode c || c.before args0 about1) = true := by decide +kernel
theorem w_tables : (allAtoms (Jvm.Cond.code x code maxLocals ret :: tables_1)).before args0 about1 = true := by
  rw [allAtoms_all]
  show words1.all (fun c => c.before args0 about1) = true
  refine all_split ?_ w_codes
  rw [← List.take_append_drop 24 words1, List.all_append, w_t1, w_t2]
  rfl
set_option maxRecDepth 65536 in
theorem w_case : (Jvm.Cond.and given_1 narrow_1).before args0 about1 = true := by decide +kernel
theorem w_applies : (headSpec (Jvm.Cond.code x code maxLocals ret :: tables_1) room_1).applies x e0.platform about1 = true :=
  (Spec.applies_iff w_frames).mpr ⟨w_running, w_runnable, w_alone, w_named, w_hears, w_ripe, w_room, w_tables⟩
theorem atStart : AtStart classFile x code maxLocals ret World_1 tables_1 room_1 Calls_1 rest_1 Pre_1 launch0 p0 e0 about1 theMethod args0 below0 :=
  ⟨lists_1, trivial, launch0.admits_env _ _ _, launch0.least_env, fairChoices_fair.cas, fairChoices_fair.clock, w_frames, w_args, w_heap, w_applies, trivial, trivial, w_case⟩
end start1
theorem witness_1 : WitnessClaimed_1 := ⟨start1.p0, start1.e0, start1.about1, start1.theMethod, start1.args0, start1.below0, start1.atStart⟩
end Jvm.Pilot.@@N@@

import JvmDerived
import JvmDerived.Pilot.@@N@@Statement
import JvmDerived.Pilot.@@N@@Code
set_option linter.unusedVariables false
set_option linter.unusedSimpArgs false
namespace Jvm.RoadKit
open Sem ClassFile Op Lib Jvm.Stand Jvm.Free Jvm.LawKit
section OwnGo
variable {p : Program} {l : Launch} {e : Env} {R : Room} {s : State} {m : MethodId} {args : Array Value} {below : List Frame} {meth : Method} {c : Code} {T : State} {locs : List Loc} {cells slots : Nat} {Z : State} {a0 : Array Value} {h : Heap} {Q : Option Value → Heap → List Loc → Prop} {P : Option Value → State → Prop} {K N : Nat} {by_ : ByteArray} {pc pc' : Nat} {Ls : Array Slot} {rest : List Value}
/-- from S the run comes to its end, and P says what it leaves -/
def Go (p : Program) (e : Env) (below : List Frame) (P : Option Value → State → Prop) (S : State) : Prop :=
  ∃ U v, Steps p.tables e below S U ∧ U.status = .running ∧ Ended U below (.returned v) ∧ P v U
/-- an end within a frame: the narrow one, and the wide one (String constants may have been interned) -/
def Nr (s : State) (Q : Option Value → Heap → List Loc → Prop) (K N : Nat) (v : Option Value) (U : State) : Prop := ∃ L, Q v U.heap L ∧ FrameEnd s (.returned v) U L K N
def Wd (s : State) (Q : Option Value → Heap → List Loc → Prop) (K N : Nat) (v : Option Value) (U : State) : Prop := ∃ L, Q v U.heap L ∧ ReturnedEndW s (.returned v) U L K N
theorem Go.st {A B : State} (f : ∀ t, Steps p.tables e below A t → Steps p.tables e below B t) (k : Go p e below P A) : Go p e below P B := by
  obtain ⟨U, v, h1, h2⟩ := k
  exact ⟨U, v, f _ h1, h2⟩
theorem Go.via {A B : State} (f : Steps p.tables e below B A) (k : Go p e below P A) : Go p e below P B := by
  obtain ⟨U, v, h1, h2⟩ := k
  exact ⟨U, v, f.trans h1, h2⟩
/-- the contract of a body -/
abbrev Con (l : Launch) (Z : State) (y : MethodName) (bytes : ByteArray) (maxL : Nat) (ret : Option FieldType) (ws : List Jvm.Cond) (rm : Room) (as : Array Value) (h : Heap) (Q : Option Value → Heap → List Loc → Prop) : Prop :=
  MetFree l y (head1 (Jvm.Cond.code y bytes maxL ret :: ws) rm) (fun a U => a = as ∧ Z.Warmed39 U.vm ∧ U.heap = h) (fun _ _ _ _ _ => True) (fun _ U o U' => ∃ v L, o = .returned v ∧ Q v U'.heap L ∧ FrameEnd U o U' L rm.cells rm.slots)
theorem Con.of {y : MethodName} {bytes : ByteArray} {maxL : Nat} {ret : Option FieldType} {ws : List Jvm.Cond} {rm : Room} {as : Array Value} (hpn : plainFor y = true)
    (body : ∀ (p : Program) (e : Env) (s : State) (m : MethodId) (below : List Frame) (meth : Method) (c : Code) (s₁ : State), p.tables.exec = Jvm.exec → c.code = bytes → c.maxLocals = maxL → s.vm.findClass y.cls = some m.cls → meth.name = y.name → meth.sig.returnType = ret → meth.locks = false → Z.Warmed39 s.vm →
      Stand p l e rm s m as below meth c s₁ [] 0 0 → s₁.heap = h → Go p e below (Nr s Q rm.cells rm.slots) (s₁.setTop (entryFrame m as maxL))) : Con l Z y bytes maxL ret ws rm as h Q := by
  refine MetFree.of_bodySF hpn hisR ?_
  intro p e s m args below meth c s₁ Bd hml0 hP hK
  obtain ⟨rfl, hZ, hh⟩ := hP
  have hown := findClass_of_methodNamed Bd.named
  have hnm := (name_of_methodNamed Bd.named Bd.method).1
  have X0 := Stand.of_body Bd
  have e0 : s₁.heap = h := by rw [← hh, Bd.state]; rfl
  obtain ⟨U, v, h1, h2, h3, L, h4, h5⟩ := body p e s m below meth c s₁ Bd.exec Bd.bytes hml0 hown hnm Bd.returns Bd.notSynchronized hZ X0 e0
  exact ⟨U, _, h1, h2, h3, v, L, rfl, h4, h5⟩
theorem Go.cast {g g' : JFrame} (q : g = g') (k : Go p e below P (T.setTop g')) : Go p e below P (T.setTop g) := q ▸ k
/-- a body that only reads numbers: what it returns, and nothing moved -/
def PQ (w : Option Value) (h0 : Heap) (v : Option Value) (h : Heap) (L : List Loc) : Prop := v = w ∧ L = [] ∧ h = h0
theorem Go.end_ {w : Option Value} {A : State} (X : Stand p l e R s m args below meth c T locs cells slots) (hlk : meth.locks = false) (hr0 : meth.sig.returnType = none → w = none) (f : ∀ fs, (∀ (f : JFrame) (acts : List Action), f.method = m → f.locked = none → f.entered = [] → (doReturn e (T.setTop f) acts w).1 = T.setFrames fs) → Steps p.tables e below A (T.setFrames fs))
    (hc : cells ≤ K) (hn : slots ≤ N) (q : Q w T.heap locs) : Go p e below (Nr s Q K N) A := by
  obtain ⟨fs, hr, hrun, hended, hW, hsame⟩ := X.leave (v := w) hr0 hlk
  exact ⟨_, _, f fs hr, hrun, hended, locs, q, ⟨_, rfl⟩, hW, hsame.mono hc hn⟩
theorem Go.ret0 (X : Stand p l e R s m args below meth c T locs cells slots) (hx : p.tables.exec = Jvm.exec) (hby : c.code = by_) (hlk : meth.locks = false) (hret : meth.sig.returnType = none) (hd : decode by_ pc = .ok (.return_, 1)) (hc : cells ≤ K) (hn : slots ≤ N) (q : Q none T.heap locs) : Go p e below (Nr s Q K N) (T.setTop (mkF m pc Ls [])) :=
  Go.end_ X hlk (fun _ => rfl) (fun fs hr => X.returnOut hx hret (hb hby hd) hr) hc hn q
theorem Go.retV {w : Value} {t : FieldType} {i : Instr} (X : Stand p l e R s m args below meth c T locs cells slots) (hx : p.tables.exec = Jvm.exec) (hby : c.code = by_) (hlk : meth.locks = false) (hret : meth.sig.returnType = some t) (hnw : narrow t w = w)
    (hi : (i = .ireturn ∧ (t = .int ∨ t = .boolean ∨ t = .byte ∨ t = .char ∨ t = .short) ∧ ∃ z, w = .int z) ∨ (i = .lreturn ∧ t = .long ∧ ∃ z, w = .long z) ∨ (i = .dreturn ∧ t = .double ∧ ∃ z, w = .double z) ∨ (i = .freturn ∧ t = .float ∧ ∃ z, w = .float z) ∨ (i = .areturn ∧ t.isReference = true ∧ w.isRef = true))
    (hd : decode by_ pc = .ok (i, 1)) (hc : cells ≤ K) (hn : slots ≤ N) (q : Q (some w) T.heap locs) : Go p e below (Nr s Q K N) (T.setTop (mkF m pc Ls (w :: rest))) :=
  Go.end_ X hlk (fun h => by rw [hret] at h; cases h) (fun fs hr => retOut X hx hret hnw hi (hb hby hd) hr) hc hn q
theorem Go.retI {z : Int32} (X : Stand p l e R s m args below meth c T locs cells slots) (hx : p.tables.exec = Jvm.exec) (hby : c.code = by_) (hlk : meth.locks = false) (hret : meth.sig.returnType = some .int) (hd : decode by_ pc = .ok (.ireturn, 1)) (hc : cells ≤ K) (hn : slots ≤ N) (q : Q (some (.int z)) T.heap locs) : Go p e below (Nr s Q K N) (T.setTop (mkF m pc Ls (.int z :: rest))) :=
  Go.retV X hx hby hlk hret rfl (Or.inl ⟨rfl, Or.inl rfl, z, rfl⟩) hd hc hn q
theorem Go.retZ {z : Int32} {t : FieldType} (X : Stand p l e R s m args below meth c T locs cells slots) (hx : p.tables.exec = Jvm.exec) (hby : c.code = by_) (hlk : meth.locks = false) (hret : meth.sig.returnType = some t) (ht : t = .boolean ∨ t = .byte ∨ t = .char ∨ t = .short) (hd : decode by_ pc = .ok (.ireturn, 1)) (hc : cells ≤ K) (hn : slots ≤ N) (q : Q (some (.int (nar t z))) T.heap locs) : Go p e below (Nr s Q K N) (T.setTop (mkF m pc Ls (.int z :: rest))) :=
  Go.end_ X hlk (fun h => by rw [hret] at h; cases h) (fun fs hr => retN X hx hret ht (hb hby hd) hr) hc hn q
theorem Go.retJ {z : Int64} (X : Stand p l e R s m args below meth c T locs cells slots) (hx : p.tables.exec = Jvm.exec) (hby : c.code = by_) (hlk : meth.locks = false) (hret : meth.sig.returnType = some .long) (hd : decode by_ pc = .ok (.lreturn, 1)) (hc : cells ≤ K) (hn : slots ≤ N) (q : Q (some (.long z)) T.heap locs) : Go p e below (Nr s Q K N) (T.setTop (mkF m pc Ls (.long z :: rest))) :=
  Go.retV X hx hby hlk hret rfl (Or.inr (Or.inl ⟨rfl, rfl, z, rfl⟩)) hd hc hn q
theorem Go.retA {w : Value} {t : FieldType} (X : Stand p l e R s m args below meth c T locs cells slots) (hx : p.tables.exec = Jvm.exec) (hby : c.code = by_) (hlk : meth.locks = false) (hret : meth.sig.returnType = some t) (hnw : narrow t w = w) (ht : t.isReference = true) (hw : w.isRef = true) (hd : decode by_ pc = .ok (.areturn, 1)) (hc : cells ≤ K) (hn : slots ≤ N) (q : Q (some w) T.heap locs) : Go p e below (Nr s Q K N) (T.setTop (mkF m pc Ls (w :: rest))) :=
  Go.retV X hx hby hlk hret hnw (Or.inr (Or.inr (Or.inr (Or.inr ⟨rfl, ht, hw⟩)))) hd hc hn q
def icP : ClassFile.Cond → Int32 → Int32 → Prop
  | .eq, x, y => x = y
  | .ne, x, y => x ≠ y
  | .lt, x, y => x < y
  | .ge, x, y => y ≤ x
  | .gt, x, y => y < x
  | .le, x, y => x ≤ y
theorem icP_iff (cd : ClassFile.Cond) (x y : Int32) : if_icmp.holds cd x y = true ↔ icP cd x y := by cases cd <;> simp [if_icmp.holds, icP]
theorem icP_not {cd : ClassFile.Cond} {x y : Int32} (q : ¬ icP cd x y) : if_icmp.holds cd x y = false := by
  cases hq : if_icmp.holds cd x y
  · rfl
  · exact absurd ((icP_iff cd x y).mp hq) q

theorem Go.iadd {x y : Int32} (X : Stand p l e R s m args below meth c T locs cells slots) (hx : p.tables.exec = Jvm.exec) (hby : c.code = by_) (hd : decode by_ pc = .ok (.iadd, 1)) (hp : pc + 1 = pc') (k : Go p e below P (T.setTop (mkF m pc' Ls (.int (x + y) :: rest)))) : Go p e below P (T.setTop (mkF m pc Ls (.int y :: .int x :: rest))) := by
  subst hp; exact Go.st (fun t k => XS.iadd X.here hx rfl (hb hby hd) rfl k) k
theorem Go.isub {x y : Int32} (X : Stand p l e R s m args below meth c T locs cells slots) (hx : p.tables.exec = Jvm.exec) (hby : c.code = by_) (hd : decode by_ pc = .ok (.isub, 1)) (hp : pc + 1 = pc') (k : Go p e below P (T.setTop (mkF m pc' Ls (.int (x - y) :: rest)))) : Go p e below P (T.setTop (mkF m pc Ls (.int y :: .int x :: rest))) := by
  subst hp; exact Go.st (fun t k => XS.isub X.here hx rfl (hb hby hd) rfl k) k
theorem Go.imul {x y : Int32} (X : Stand p l e R s m args below meth c T locs cells slots) (hx : p.tables.exec = Jvm.exec) (hby : c.code = by_) (hd : decode by_ pc = .ok (.imul, 1)) (hp : pc + 1 = pc') (k : Go p e below P (T.setTop (mkF m pc' Ls (.int (x * y) :: rest)))) : Go p e below P (T.setTop (mkF m pc Ls (.int y :: .int x :: rest))) := by
  subst hp; exact Go.st (fun t k => XS.imul X.here hx rfl (hb hby hd) rfl k) k
theorem Go.iand {x y : Int32} (X : Stand p l e R s m args below meth c T locs cells slots) (hx : p.tables.exec = Jvm.exec) (hby : c.code = by_) (hd : decode by_ pc = .ok (.iand, 1)) (hp : pc + 1 = pc') (k : Go p e below P (T.setTop (mkF m pc' Ls (.int (x &&& y) :: rest)))) : Go p e below P (T.setTop (mkF m pc Ls (.int y :: .int x :: rest))) := by
  subst hp; exact Go.st (fun t k => XS.iand X.here hx rfl (hb hby hd) rfl k) k
theorem Go.ior {x y : Int32} (X : Stand p l e R s m args below meth c T locs cells slots) (hx : p.tables.exec = Jvm.exec) (hby : c.code = by_) (hd : decode by_ pc = .ok (.ior, 1)) (hp : pc + 1 = pc') (k : Go p e below P (T.setTop (mkF m pc' Ls (.int (x ||| y) :: rest)))) : Go p e below P (T.setTop (mkF m pc Ls (.int y :: .int x :: rest))) := by
  subst hp; exact Go.st (fun t k => XS.ior X.here hx rfl (hb hby hd) rfl k) k
theorem Go.ixor {x y : Int32} (X : Stand p l e R s m args below meth c T locs cells slots) (hx : p.tables.exec = Jvm.exec) (hby : c.code = by_) (hd : decode by_ pc = .ok (.ixor, 1)) (hp : pc + 1 = pc') (k : Go p e below P (T.setTop (mkF m pc' Ls (.int (x ^^^ y) :: rest)))) : Go p e below P (T.setTop (mkF m pc Ls (.int y :: .int x :: rest))) := by
  subst hp; exact Go.st (fun t k => XS.ixor X.here hx rfl (hb hby hd) rfl k) k
theorem Go.ladd {x y : Int64} (X : Stand p l e R s m args below meth c T locs cells slots) (hx : p.tables.exec = Jvm.exec) (hby : c.code = by_) (hd : decode by_ pc = .ok (.ladd, 1)) (hp : pc + 1 = pc') (k : Go p e below P (T.setTop (mkF m pc' Ls (.long (x + y) :: rest)))) : Go p e below P (T.setTop (mkF m pc Ls (.long y :: .long x :: rest))) := by
  subst hp; exact Go.st (fun t k => XS.ladd X.here hx rfl (hb hby hd) rfl k) k
theorem Go.lsub {x y : Int64} (X : Stand p l e R s m args below meth c T locs cells slots) (hx : p.tables.exec = Jvm.exec) (hby : c.code = by_) (hd : decode by_ pc = .ok (.lsub, 1)) (hp : pc + 1 = pc') (k : Go p e below P (T.setTop (mkF m pc' Ls (.long (x - y) :: rest)))) : Go p e below P (T.setTop (mkF m pc Ls (.long y :: .long x :: rest))) := by
  subst hp; exact Go.st (fun t k => XS.lsub X.here hx rfl (hb hby hd) rfl k) k
theorem Go.lmul {x y : Int64} (X : Stand p l e R s m args below meth c T locs cells slots) (hx : p.tables.exec = Jvm.exec) (hby : c.code = by_) (hd : decode by_ pc = .ok (.lmul, 1)) (hp : pc + 1 = pc') (k : Go p e below P (T.setTop (mkF m pc' Ls (.long (x * y) :: rest)))) : Go p e below P (T.setTop (mkF m pc Ls (.long y :: .long x :: rest))) := by
  subst hp; exact Go.st (fun t k => XS.lmul X.here hx rfl (hb hby hd) rfl k) k
theorem Go.land {x y : Int64} (X : Stand p l e R s m args below meth c T locs cells slots) (hx : p.tables.exec = Jvm.exec) (hby : c.code = by_) (hd : decode by_ pc = .ok (.land, 1)) (hp : pc + 1 = pc') (k : Go p e below P (T.setTop (mkF m pc' Ls (.long (x &&& y) :: rest)))) : Go p e below P (T.setTop (mkF m pc Ls (.long y :: .long x :: rest))) := by
  subst hp; exact Go.st (fun t k => XS.land X.here hx rfl (hb hby hd) rfl k) k
theorem Go.lor {x y : Int64} (X : Stand p l e R s m args below meth c T locs cells slots) (hx : p.tables.exec = Jvm.exec) (hby : c.code = by_) (hd : decode by_ pc = .ok (.lor, 1)) (hp : pc + 1 = pc') (k : Go p e below P (T.setTop (mkF m pc' Ls (.long (x ||| y) :: rest)))) : Go p e below P (T.setTop (mkF m pc Ls (.long y :: .long x :: rest))) := by
  subst hp; exact Go.st (fun t k => XS.lor X.here hx rfl (hb hby hd) rfl k) k
theorem Go.lxor {x y : Int64} (X : Stand p l e R s m args below meth c T locs cells slots) (hx : p.tables.exec = Jvm.exec) (hby : c.code = by_) (hd : decode by_ pc = .ok (.lxor, 1)) (hp : pc + 1 = pc') (k : Go p e below P (T.setTop (mkF m pc' Ls (.long (x ^^^ y) :: rest)))) : Go p e below P (T.setTop (mkF m pc Ls (.long y :: .long x :: rest))) := by
  subst hp; exact Go.st (fun t k => XS.lxor X.here hx rfl (hb hby hd) rfl k) k
theorem Go.ishl {x y : Int32} (X : Stand p l e R s m args below meth c T locs cells slots) (hx : p.tables.exec = Jvm.exec) (hby : c.code = by_) (hd : decode by_ pc = .ok (.ishl, 1)) (hp : pc + 1 = pc') (k : Go p e below P (T.setTop (mkF m pc' Ls (.int (x <<< (y &&& 31)) :: rest)))) : Go p e below P (T.setTop (mkF m pc Ls (.int y :: .int x :: rest))) := by
  subst hp; exact Go.st (fun t k => XS.ishl X.here hx rfl (hb hby hd) rfl k) k
theorem Go.ishr {x y : Int32} (X : Stand p l e R s m args below meth c T locs cells slots) (hx : p.tables.exec = Jvm.exec) (hby : c.code = by_) (hd : decode by_ pc = .ok (.ishr, 1)) (hp : pc + 1 = pc') (k : Go p e below P (T.setTop (mkF m pc' Ls (.int (x >>> (y &&& 31)) :: rest)))) : Go p e below P (T.setTop (mkF m pc Ls (.int y :: .int x :: rest))) := by
  subst hp; exact Go.st (fun t k => XS.ishr X.here hx rfl (hb hby hd) rfl k) k
theorem Go.iushr {x y : Int32} (X : Stand p l e R s m args below meth c T locs cells slots) (hx : p.tables.exec = Jvm.exec) (hby : c.code = by_) (hd : decode by_ pc = .ok (.iushr, 1)) (hp : pc + 1 = pc') (k : Go p e below P (T.setTop (mkF m pc' Ls (.int ((x.toUInt32 >>> (y &&& 31).toUInt32).toInt32) :: rest)))) : Go p e below P (T.setTop (mkF m pc Ls (.int y :: .int x :: rest))) := by
  subst hp; exact Go.st (fun t k => XS.iushr X.here hx rfl (hb hby hd) rfl k) k
theorem Go.lshl {x : Int64} {y : Int32} (X : Stand p l e R s m args below meth c T locs cells slots) (hx : p.tables.exec = Jvm.exec) (hby : c.code = by_) (hd : decode by_ pc = .ok (.lshl, 1)) (hp : pc + 1 = pc') (k : Go p e below P (T.setTop (mkF m pc' Ls (.long (x <<< (y &&& 0x3f).toInt64) :: rest)))) : Go p e below P (T.setTop (mkF m pc Ls (.int y :: .long x :: rest))) := by
  subst hp; exact Go.st (fun t k => XS.lshl X.here hx rfl (hb hby hd) rfl k) k
theorem Go.lshr {x : Int64} {y : Int32} (X : Stand p l e R s m args below meth c T locs cells slots) (hx : p.tables.exec = Jvm.exec) (hby : c.code = by_) (hd : decode by_ pc = .ok (.lshr, 1)) (hp : pc + 1 = pc') (k : Go p e below P (T.setTop (mkF m pc' Ls (.long (x >>> (y &&& 0x3f).toInt64) :: rest)))) : Go p e below P (T.setTop (mkF m pc Ls (.int y :: .long x :: rest))) := by
  subst hp; exact Go.st (fun t k => XS.lshr X.here hx rfl (hb hby hd) rfl k) k
theorem Go.lushr {x : Int64} {y : Int32} (X : Stand p l e R s m args below meth c T locs cells slots) (hx : p.tables.exec = Jvm.exec) (hby : c.code = by_) (hd : decode by_ pc = .ok (.lushr, 1)) (hp : pc + 1 = pc') (k : Go p e below P (T.setTop (mkF m pc' Ls (.long ((x.toUInt64 >>> (y &&& 0x3f).toInt64.toUInt64).toInt64) :: rest)))) : Go p e below P (T.setTop (mkF m pc Ls (.int y :: .long x :: rest))) := by
  subst hp; exact Go.st (fun t k => XS.lushr X.here hx rfl (hb hby hd) rfl k) k
theorem Go.ineg {x : Int32} (X : Stand p l e R s m args below meth c T locs cells slots) (hx : p.tables.exec = Jvm.exec) (hby : c.code = by_) (hd : decode by_ pc = .ok (.ineg, 1)) (hp : pc + 1 = pc') (k : Go p e below P (T.setTop (mkF m pc' Ls (.int (-x) :: rest)))) : Go p e below P (T.setTop (mkF m pc Ls (.int x :: rest))) := by
  subst hp; exact Go.st (fun t k => XS.ineg X.here hx rfl (hb hby hd) rfl k) k
theorem Go.lneg {x : Int64} (X : Stand p l e R s m args below meth c T locs cells slots) (hx : p.tables.exec = Jvm.exec) (hby : c.code = by_) (hd : decode by_ pc = .ok (.lneg, 1)) (hp : pc + 1 = pc') (k : Go p e below P (T.setTop (mkF m pc' Ls (.long (-x) :: rest)))) : Go p e below P (T.setTop (mkF m pc Ls (.long x :: rest))) := by
  subst hp; exact Go.st (fun t k => XS.lneg X.here hx rfl (hb hby hd) rfl k) k
theorem Go.i2b {x : Int32} (X : Stand p l e R s m args below meth c T locs cells slots) (hx : p.tables.exec = Jvm.exec) (hby : c.code = by_) (hd : decode by_ pc = .ok (.i2b, 1)) (hp : pc + 1 = pc') (k : Go p e below P (T.setTop (mkF m pc' Ls (.int (x.toInt8.toInt32) :: rest)))) : Go p e below P (T.setTop (mkF m pc Ls (.int x :: rest))) := by
  subst hp; exact Go.st (fun t k => XS.i2b X.here hx rfl (hb hby hd) rfl k) k
theorem Go.i2c {x : Int32} (X : Stand p l e R s m args below meth c T locs cells slots) (hx : p.tables.exec = Jvm.exec) (hby : c.code = by_) (hd : decode by_ pc = .ok (.i2c, 1)) (hp : pc + 1 = pc') (k : Go p e below P (T.setTop (mkF m pc' Ls (.int (x.toUInt32.toUInt16.toUInt32.toInt32) :: rest)))) : Go p e below P (T.setTop (mkF m pc Ls (.int x :: rest))) := by
  subst hp; exact Go.st (fun t k => XS.i2c X.here hx rfl (hb hby hd) rfl k) k
theorem Go.i2s {x : Int32} (X : Stand p l e R s m args below meth c T locs cells slots) (hx : p.tables.exec = Jvm.exec) (hby : c.code = by_) (hd : decode by_ pc = .ok (.i2s, 1)) (hp : pc + 1 = pc') (k : Go p e below P (T.setTop (mkF m pc' Ls (.int (x.toInt16.toInt32) :: rest)))) : Go p e below P (T.setTop (mkF m pc Ls (.int x :: rest))) := by
  subst hp; exact Go.st (fun t k => XS.i2s X.here hx rfl (hb hby hd) rfl k) k
theorem Go.i2l {x : Int32} (X : Stand p l e R s m args below meth c T locs cells slots) (hx : p.tables.exec = Jvm.exec) (hby : c.code = by_) (hd : decode by_ pc = .ok (.i2l, 1)) (hp : pc + 1 = pc') (k : Go p e below P (T.setTop (mkF m pc' Ls (.long (x.toInt64) :: rest)))) : Go p e below P (T.setTop (mkF m pc Ls (.int x :: rest))) := by
  subst hp; exact Go.st (fun t k => XS.i2l X.here hx rfl (hb hby hd) rfl k) k
theorem Go.l2i {x : Int64} (X : Stand p l e R s m args below meth c T locs cells slots) (hx : p.tables.exec = Jvm.exec) (hby : c.code = by_) (hd : decode by_ pc = .ok (.l2i, 1)) (hp : pc + 1 = pc') (k : Go p e below P (T.setTop (mkF m pc' Ls (.int (x.toInt32) :: rest)))) : Go p e below P (T.setTop (mkF m pc Ls (.long x :: rest))) := by
  subst hp; exact Go.st (fun t k => XS.l2i X.here hx rfl (hb hby hd) rfl k) k
theorem Go.lcmp {x y : Int64} (X : Stand p l e R s m args below meth c T locs cells slots) (hx : p.tables.exec = Jvm.exec) (hby : c.code = by_) (hd : decode by_ pc = .ok (.lcmp, 1)) (hp : pc + 1 = pc') (k : Go p e below P (T.setTop (mkF m pc' Ls (.int (lcmpW x y) :: rest)))) : Go p e below P (T.setTop (mkF m pc Ls (.long y :: .long x :: rest))) := by
  subst hp; exact Go.st (fun t k => XS.lcmp X.here hx rfl (hb hby hd) rfl k) k
theorem Go.idiv {x y : Int32} (X : Stand p l e R s m args below meth c T locs cells slots) (hx : p.tables.exec = Jvm.exec) (hby : c.code = by_) (hd : decode by_ pc = .ok (.idiv, 1)) (hp : pc + 1 = pc') (hy : y ≠ 0) (k : Go p e below P (T.setTop (mkF m pc' Ls (.int (x / y) :: rest)))) : Go p e below P (T.setTop (mkF m pc Ls (.int y :: .int x :: rest))) := by
  subst hp; exact Go.st (fun t k => XS.idiv X.here hx rfl (hb hby hd) rfl hy k) k
theorem Go.irem {x y : Int32} (X : Stand p l e R s m args below meth c T locs cells slots) (hx : p.tables.exec = Jvm.exec) (hby : c.code = by_) (hd : decode by_ pc = .ok (.irem, 1)) (hp : pc + 1 = pc') (hy : y ≠ 0) (k : Go p e below P (T.setTop (mkF m pc' Ls (.int (x % y) :: rest)))) : Go p e below P (T.setTop (mkF m pc Ls (.int y :: .int x :: rest))) := by
  subst hp; exact Go.st (fun t k => iremM X hx rfl (hb hby hd) rfl hy k) k
theorem Go.ldiv {x y : Int64} (X : Stand p l e R s m args below meth c T locs cells slots) (hx : p.tables.exec = Jvm.exec) (hby : c.code = by_) (hd : decode by_ pc = .ok (.ldiv, 1)) (hp : pc + 1 = pc') (hy : y ≠ 0) (k : Go p e below P (T.setTop (mkF m pc' Ls (.long (x / y) :: rest)))) : Go p e below P (T.setTop (mkF m pc Ls (.long y :: .long x :: rest))) := by
  subst hp; exact Go.st (fun t k => XS.ldiv X.here hx rfl (hb hby hd) rfl hy k) k
theorem Go.lrem {x y : Int64} (X : Stand p l e R s m args below meth c T locs cells slots) (hx : p.tables.exec = Jvm.exec) (hby : c.code = by_) (hd : decode by_ pc = .ok (.lrem, 1)) (hp : pc + 1 = pc') (hy : y ≠ 0) (k : Go p e below P (T.setTop (mkF m pc' Ls (.long (x - (x / y) * y) :: rest)))) : Go p e below P (T.setTop (mkF m pc Ls (.long y :: .long x :: rest))) := by
  subst hp; exact Go.st (fun t k => XS.lrem X.here hx rfl (hb hby hd) rfl hy k) k
theorem Go.dup {w : Value} (X : Stand p l e R s m args below meth c T locs cells slots) (hx : p.tables.exec = Jvm.exec) (hby : c.code = by_) (hd : decode by_ pc = .ok (.dup, 1)) (hp : pc + 1 = pc') (hc : w.category = 1) (k : Go p e below P (T.setTop (mkF m pc' Ls (w :: w :: rest)))) : Go p e below P (T.setTop (mkF m pc Ls (w :: rest))) := by
  subst hp; exact Go.st (fun t k => XS.dup X.here hx rfl (hb hby hd) rfl hc k) k
theorem Go.pop {w : Value} (X : Stand p l e R s m args below meth c T locs cells slots) (hx : p.tables.exec = Jvm.exec) (hby : c.code = by_) (hd : decode by_ pc = .ok (.pop, 1)) (hp : pc + 1 = pc') (hc : w.category = 1) (k : Go p e below P (T.setTop (mkF m pc' Ls rest))) : Go p e below P (T.setTop (mkF m pc Ls (w :: rest))) := by
  subst hp; exact Go.st (fun t k => XS.pop X.here hx rfl (hb hby hd) rfl hc k) k
theorem Go.dupX1 {w u : Value} (X : Stand p l e R s m args below meth c T locs cells slots) (hx : p.tables.exec = Jvm.exec) (hby : c.code = by_) (hd : decode by_ pc = .ok (.dup_x1, 1)) (hp : pc + 1 = pc') (hc : w.category = 1) (hc2 : u.category = 1) (k : Go p e below P (T.setTop (mkF m pc' Ls (w :: u :: w :: rest)))) : Go p e below P (T.setTop (mkF m pc Ls (w :: u :: rest))) := by
  subst hp; exact Go.st (fun t k => XS.dupX1 X.here hx rfl (hb hby hd) rfl hc hc2 k) k
theorem Go.dup2 {w u : Value} (X : Stand p l e R s m args below meth c T locs cells slots) (hx : p.tables.exec = Jvm.exec) (hby : c.code = by_) (hd : decode by_ pc = .ok (.dup2, 1)) (hp : pc + 1 = pc') (hc : w.category = 1) (hc2 : u.category = 1) (k : Go p e below P (T.setTop (mkF m pc' Ls (w :: u :: w :: u :: rest)))) : Go p e below P (T.setTop (mkF m pc Ls (w :: u :: rest))) := by
  subst hp; exact Go.st (fun t k => XT.dup2 X.here hx rfl (hb hby hd) rfl hc hc2 k) k
theorem Go.iconst {i : Int} {v : Int32} (X : Stand p l e R s m args below meth c T locs cells slots) (hx : p.tables.exec = Jvm.exec) (hby : c.code = by_) (hd : decode by_ pc = .ok (.iconst i, 1)) (hp : pc + 1 = pc') (hv : Int32.ofInt i = v) (k : Go p e below P (T.setTop (mkF m pc' Ls (.int v :: rest)))) : Go p e below P (T.setTop (mkF m pc Ls rest)) := by
  subst hp; exact Go.st (fun t k => XS.iconst X.here hx rfl (hb hby hd) (by rw [hv]; exact k)) k
theorem Go.bipush {i : Int} {v : Int32} (X : Stand p l e R s m args below meth c T locs cells slots) (hx : p.tables.exec = Jvm.exec) (hby : c.code = by_) (hd : decode by_ pc = .ok (.bipush i, 2)) (hp : pc + 2 = pc') (hv : (Int8.ofInt i).toInt32 = v) (k : Go p e below P (T.setTop (mkF m pc' Ls (.int v :: rest)))) : Go p e below P (T.setTop (mkF m pc Ls rest)) := by
  subst hp; exact Go.st (fun t k => XS.bipush X.here hx rfl (hb hby hd) (by rw [hv]; exact k)) k
theorem Go.sipush {i : Int} {v : Int32} (X : Stand p l e R s m args below meth c T locs cells slots) (hx : p.tables.exec = Jvm.exec) (hby : c.code = by_) (hd : decode by_ pc = .ok (.sipush i, 3)) (hp : pc + 3 = pc') (hv : (Int16.ofInt i).toInt32 = v) (k : Go p e below P (T.setTop (mkF m pc' Ls (.int v :: rest)))) : Go p e below P (T.setTop (mkF m pc Ls rest)) := by
  subst hp; exact Go.st (fun t k => XS.sipush X.here hx rfl (hb hby hd) (by rw [hv]; exact k)) k
theorem Go.lconst {i : Fin 2} {v : Int64} (X : Stand p l e R s m args below meth c T locs cells slots) (hx : p.tables.exec = Jvm.exec) (hby : c.code = by_) (hd : decode by_ pc = .ok (.lconst i, 1)) (hp : pc + 1 = pc') (hv : Int64.ofNat i = v) (k : Go p e below P (T.setTop (mkF m pc' Ls (.long v :: rest)))) : Go p e below P (T.setTop (mkF m pc Ls rest)) := by
  subst hp; exact Go.st (fun t k => XS.lconst X.here hx rfl (hb hby hd) (by rw [hv]; exact k)) k
theorem Go.aconstNull  (X : Stand p l e R s m args below meth c T locs cells slots) (hx : p.tables.exec = Jvm.exec) (hby : c.code = by_) (hd : decode by_ pc = .ok (.aconst_null, 1)) (hp : pc + 1 = pc') (k : Go p e below P (T.setTop (mkF m pc' Ls (.null :: rest)))) : Go p e below P (T.setTop (mkF m pc Ls rest)) := by
  subst hp; exact Go.st (fun t k => XS.aconstNull X.here hx rfl (hb hby hd) k) k
theorem Go.iloadN {i : Fin 4} {v : Int32} (X : Stand p l e R s m args below meth c T locs cells slots) (hx : p.tables.exec = Jvm.exec) (hby : c.code = by_) (hd : decode by_ pc = .ok (.iload_n i, 1)) (hp : pc + 1 = pc') (hl : Ls[i.val]? = some (.val (.int v))) (k : Go p e below P (T.setTop (mkF m pc' Ls (.int v :: rest)))) : Go p e below P (T.setTop (mkF m pc Ls rest)) := by
  subst hp; exact Go.st (fun t k => XS.iloadN X.here hx rfl (hb hby hd) hl k) k
theorem Go.iload {i : Nat} {v : Int32} (X : Stand p l e R s m args below meth c T locs cells slots) (hx : p.tables.exec = Jvm.exec) (hby : c.code = by_) (hd : decode by_ pc = .ok (.iload i, 2)) (hp : pc + 2 = pc') (hl : Ls[i]? = some (.val (.int v))) (k : Go p e below P (T.setTop (mkF m pc' Ls (.int v :: rest)))) : Go p e below P (T.setTop (mkF m pc Ls rest)) := by
  subst hp; exact Go.st (fun t k => XS.iload X.here hx rfl (hb hby hd) hl k) k
theorem Go.lloadN {i : Fin 4} {v : Int64} (X : Stand p l e R s m args below meth c T locs cells slots) (hx : p.tables.exec = Jvm.exec) (hby : c.code = by_) (hd : decode by_ pc = .ok (.lload_n i, 1)) (hp : pc + 1 = pc') (hl : Ls[i.val]? = some (.val (.long v))) (k : Go p e below P (T.setTop (mkF m pc' Ls (.long v :: rest)))) : Go p e below P (T.setTop (mkF m pc Ls rest)) := by
  subst hp; exact Go.st (fun t k => XS.lloadN X.here hx rfl (hb hby hd) hl k) k
theorem Go.lload {i : Nat} {v : Int64} (X : Stand p l e R s m args below meth c T locs cells slots) (hx : p.tables.exec = Jvm.exec) (hby : c.code = by_) (hd : decode by_ pc = .ok (.lload i, 2)) (hp : pc + 2 = pc') (hl : Ls[i]? = some (.val (.long v))) (k : Go p e below P (T.setTop (mkF m pc' Ls (.long v :: rest)))) : Go p e below P (T.setTop (mkF m pc Ls rest)) := by
  subst hp; exact Go.st (fun t k => XS.lload X.here hx rfl (hb hby hd) hl k) k
theorem Go.aloadN {i : Fin 4} {v : Value} (X : Stand p l e R s m args below meth c T locs cells slots) (hx : p.tables.exec = Jvm.exec) (hby : c.code = by_) (hd : decode by_ pc = .ok (.aload_n i, 1)) (hp : pc + 1 = pc') (hl : Ls[i.val]? = some (.val v)) (hv : v.isRef = true) (k : Go p e below P (T.setTop (mkF m pc' Ls (v :: rest)))) : Go p e below P (T.setTop (mkF m pc Ls rest)) := by
  subst hp; exact Go.st (fun t k => XS.aloadN X.here hx rfl (hb hby hd) hl hv k) k
theorem Go.aload {i : Nat} {v : Value} (X : Stand p l e R s m args below meth c T locs cells slots) (hx : p.tables.exec = Jvm.exec) (hby : c.code = by_) (hd : decode by_ pc = .ok (.aload i, 2)) (hp : pc + 2 = pc') (hl : Ls[i]? = some (.val v)) (hv : v.isRef = true) (k : Go p e below P (T.setTop (mkF m pc' Ls (v :: rest)))) : Go p e below P (T.setTop (mkF m pc Ls rest)) := by
  subst hp; exact Go.st (fun t k => XS.aload X.here hx rfl (hb hby hd) hl hv k) k
theorem Go.ldcI {own : String} {index : Nat} {v : Int32} (X : Stand p l e R s m args below meth c T locs cells slots) (hx : p.tables.exec = Jvm.exec) (hby : c.code = by_) (hd : decode by_ pc = .ok (.ldc index, 2)) (hp : pc + 2 = pc') (hown : s.vm.findClass own = some m.cls) (hk : (Jvm.Cond.constant own index v).before args s = true) (k : Go p e below P (T.setTop (mkF m pc' Ls (.int v :: rest)))) : Go p e below P (T.setTop (mkF m pc Ls rest)) := by
  subst hp; exact Go.st (fun t k => X.ldcI hx hown hk rfl (hb hby hd) k) k
theorem Go.ldcWI {own : String} {index : Nat} {v : Int32} (X : Stand p l e R s m args below meth c T locs cells slots) (hx : p.tables.exec = Jvm.exec) (hby : c.code = by_) (hd : decode by_ pc = .ok (.ldc_w index, 3)) (hp : pc + 3 = pc') (hown : s.vm.findClass own = some m.cls) (hk : (Jvm.Cond.constant own index v).before args s = true) (k : Go p e below P (T.setTop (mkF m pc' Ls (.int v :: rest)))) : Go p e below P (T.setTop (mkF m pc Ls rest)) := by
  subst hp; exact Go.st (fun t k => X.ldcWI hx hown hk rfl (hb hby hd) k) k
theorem Go.ldc2J {own : String} {index : Nat} {v : Int64} (X : Stand p l e R s m args below meth c T locs cells slots) (hx : p.tables.exec = Jvm.exec) (hby : c.code = by_) (hd : decode by_ pc = .ok (.ldc2_w index, 3)) (hp : pc + 3 = pc') (hown : s.vm.findClass own = some m.cls) (hk : (Jvm.Cond.constantLong own index v).before args s = true) (k : Go p e below P (T.setTop (mkF m pc' Ls (.long v :: rest)))) : Go p e below P (T.setTop (mkF m pc Ls rest)) := by
  subst hp; exact Go.st (fun t k => X.ldc2J hx hown hk rfl (hb hby hd) k) k
theorem Go.istoreN {i : Fin 4} {v : Int32} {Ls' : Array Slot} (X : Stand p l e R s m args below meth c T locs cells slots) (hx : p.tables.exec = Jvm.exec) (hby : c.code = by_) (hd : decode by_ pc = .ok (.istore_n i, 1)) (hp : pc + 1 = pc') (hl : storeLocals Ls i.val (.int v) = some Ls') (k : Go p e below P (T.setTop (mkF m pc' Ls' rest))) : Go p e below P (T.setTop (mkF m pc Ls (.int v :: rest))) := by
  subst hp; exact Go.st (fun t k => XS.istoreN X.here hx rfl (hb hby hd) rfl hl k) k
theorem Go.istore {i : Nat} {v : Int32} {Ls' : Array Slot} (X : Stand p l e R s m args below meth c T locs cells slots) (hx : p.tables.exec = Jvm.exec) (hby : c.code = by_) (hd : decode by_ pc = .ok (.istore i, 2)) (hp : pc + 2 = pc') (hl : storeLocals Ls i (.int v) = some Ls') (k : Go p e below P (T.setTop (mkF m pc' Ls' rest))) : Go p e below P (T.setTop (mkF m pc Ls (.int v :: rest))) := by
  subst hp; exact Go.st (fun t k => XS.istore X.here hx rfl (hb hby hd) rfl hl k) k
theorem Go.lstoreN {i : Fin 4} {v : Int64} {Ls' : Array Slot} (X : Stand p l e R s m args below meth c T locs cells slots) (hx : p.tables.exec = Jvm.exec) (hby : c.code = by_) (hd : decode by_ pc = .ok (.lstore_n i, 1)) (hp : pc + 1 = pc') (hl : storeLocals Ls i.val (.long v) = some Ls') (k : Go p e below P (T.setTop (mkF m pc' Ls' rest))) : Go p e below P (T.setTop (mkF m pc Ls (.long v :: rest))) := by
  subst hp; exact Go.st (fun t k => XS.lstoreN X.here hx rfl (hb hby hd) rfl hl k) k
theorem Go.lstore {i : Nat} {v : Int64} {Ls' : Array Slot} (X : Stand p l e R s m args below meth c T locs cells slots) (hx : p.tables.exec = Jvm.exec) (hby : c.code = by_) (hd : decode by_ pc = .ok (.lstore i, 2)) (hp : pc + 2 = pc') (hl : storeLocals Ls i (.long v) = some Ls') (k : Go p e below P (T.setTop (mkF m pc' Ls' rest))) : Go p e below P (T.setTop (mkF m pc Ls (.long v :: rest))) := by
  subst hp; exact Go.st (fun t k => XS.lstore X.here hx rfl (hb hby hd) rfl hl k) k
theorem Go.astoreN {i : Fin 4} {v : Value} {Ls' : Array Slot} (X : Stand p l e R s m args below meth c T locs cells slots) (hx : p.tables.exec = Jvm.exec) (hby : c.code = by_) (hd : decode by_ pc = .ok (.astore_n i, 1)) (hp : pc + 1 = pc') (hv : v.isRef = true) (hl : storeLocals Ls i.val v = some Ls') (k : Go p e below P (T.setTop (mkF m pc' Ls' rest))) : Go p e below P (T.setTop (mkF m pc Ls (v :: rest))) := by
  subst hp; exact Go.st (fun t k => XS.astoreN X.here hx rfl (hb hby hd) rfl hv hl k) k
theorem Go.astore {i : Nat} {v : Value} {Ls' : Array Slot} (X : Stand p l e R s m args below meth c T locs cells slots) (hx : p.tables.exec = Jvm.exec) (hby : c.code = by_) (hd : decode by_ pc = .ok (.astore i, 2)) (hp : pc + 2 = pc') (hv : v.isRef = true) (hl : storeLocals Ls i v = some Ls') (k : Go p e below P (T.setTop (mkF m pc' Ls' rest))) : Go p e below P (T.setTop (mkF m pc Ls (v :: rest))) := by
  subst hp; exact Go.st (fun t k => XS.astore X.here hx rfl (hb hby hd) rfl hv hl k) k
theorem Go.iinc {i : Nat} {cst : Int} {v w : Int32} {Ls' : Array Slot} (X : Stand p l e R s m args below meth c T locs cells slots) (hx : p.tables.exec = Jvm.exec) (hby : c.code = by_) (hd : decode by_ pc = .ok (.iinc i cst, 3)) (hp : pc + 3 = pc') (hl : Ls[i]? = some (.val (.int v))) (hv : v + Int32.ofInt cst = w) (hl' : storeLocals Ls i (.int w) = some Ls') (k : Go p e below P (T.setTop (mkF m pc' Ls' rest))) : Go p e below P (T.setTop (mkF m pc Ls rest)) := by
  subst hp hv; exact Go.st (fun t k => XS.iinc X.here hx rfl (hb hby hd) hl hl' k) k
theorem Go.goto {o : Int} (X : Stand p l e R s m args below meth c T locs cells slots) (hx : p.tables.exec = Jvm.exec) (hby : c.code = by_) (hd : decode by_ pc = .ok (.goto o, 3)) (ho : 0 ≤ (pc : Int) + o) (hp : ((pc : Int) + o).toNat = pc') (k : Go p e below P (T.setTop (mkF m pc' Ls rest))) : Go p e below P (T.setTop (mkF m pc Ls rest)) :=
  Go.st (fun t k => XS.goto X.here hx rfl rfl (hb hby hd) ho hp k) k
theorem Go.icmpY {cd : ClassFile.Cond} {o : Int} {x y : Int32} (X : Stand p l e R s m args below meth c T locs cells slots) (hx : p.tables.exec = Jvm.exec) (hby : c.code = by_) (hd : decode by_ pc = .ok (.if_icmp cd o, 3)) (ho : 0 ≤ (pc : Int) + o) (hp : ((pc : Int) + o).toNat = pc') (q : icP cd x y) (k : Go p e below P (T.setTop (mkF m pc' Ls rest))) : Go p e below P (T.setTop (mkF m pc Ls (.int y :: .int x :: rest))) :=
  Go.st (fun t k => XS.icmpYes X.here hx rfl rfl (hb hby hd) rfl ((icP_iff cd x y).mpr q) ho hp k) k
theorem Go.icmpN {cd : ClassFile.Cond} {o : Int} {x y : Int32} (X : Stand p l e R s m args below meth c T locs cells slots) (hx : p.tables.exec = Jvm.exec) (hby : c.code = by_) (hd : decode by_ pc = .ok (.if_icmp cd o, 3)) (hp : pc + 3 = pc') (q : ¬ icP cd x y) (k : Go p e below P (T.setTop (mkF m pc' Ls rest))) : Go p e below P (T.setTop (mkF m pc Ls (.int y :: .int x :: rest))) := by
  subst hp; exact Go.st (fun t k => XS.icmpNo X.here hx rfl (hb hby hd) rfl (icP_not q) k) k
theorem Go.icmp {cd : ClassFile.Cond} {o : Int} {x y : Int32} {pn : Nat} (X : Stand p l e R s m args below meth c T locs cells slots) (hx : p.tables.exec = Jvm.exec) (hby : c.code = by_) (hd : decode by_ pc = .ok (.if_icmp cd o, 3)) (ho : 0 ≤ (pc : Int) + o) (hp : ((pc : Int) + o).toNat = pc') (hp2 : pc + 3 = pn) (k : icP cd x y → Go p e below P (T.setTop (mkF m pc' Ls rest))) (k2 : ¬ icP cd x y → Go p e below P (T.setTop (mkF m pn Ls rest))) : Go p e below P (T.setTop (mkF m pc Ls (.int y :: .int x :: rest))) := by
  by_cases q : icP cd x y
  · exact Go.icmpY X hx hby hd ho hp q (k q)
  · exact Go.icmpN X hx hby hd hp2 q (k2 q)
theorem Go.ifY {cd : ClassFile.Cond} {o : Int} {x : Int32} (X : Stand p l e R s m args below meth c T locs cells slots) (hx : p.tables.exec = Jvm.exec) (hby : c.code = by_) (hd : decode by_ pc = .ok (.ifCond cd o, 3)) (ho : 0 ≤ (pc : Int) + o) (hp : ((pc : Int) + o).toNat = pc') (q : icP cd x 0) (k : Go p e below P (T.setTop (mkF m pc' Ls rest))) : Go p e below P (T.setTop (mkF m pc Ls (.int x :: rest))) :=
  Go.st (fun t k => XS.ifYes X.here hx rfl rfl (hb hby hd) rfl (by rw [if0]; exact (icP_iff cd x 0).mpr q) ho hp k) k
theorem Go.ifN {cd : ClassFile.Cond} {o : Int} {x : Int32} (X : Stand p l e R s m args below meth c T locs cells slots) (hx : p.tables.exec = Jvm.exec) (hby : c.code = by_) (hd : decode by_ pc = .ok (.ifCond cd o, 3)) (hp : pc + 3 = pc') (q : ¬ icP cd x 0) (k : Go p e below P (T.setTop (mkF m pc' Ls rest))) : Go p e below P (T.setTop (mkF m pc Ls (.int x :: rest))) := by
  subst hp; exact Go.st (fun t k => XS.ifNo X.here hx rfl (hb hby hd) rfl (by rw [if0]; exact icP_not q) k) k
theorem Go.if_ {cd : ClassFile.Cond} {o : Int} {x : Int32} {pn : Nat} (X : Stand p l e R s m args below meth c T locs cells slots) (hx : p.tables.exec = Jvm.exec) (hby : c.code = by_) (hd : decode by_ pc = .ok (.ifCond cd o, 3)) (ho : 0 ≤ (pc : Int) + o) (hp : ((pc : Int) + o).toNat = pc') (hp2 : pc + 3 = pn) (k : icP cd x 0 → Go p e below P (T.setTop (mkF m pc' Ls rest))) (k2 : ¬ icP cd x 0 → Go p e below P (T.setTop (mkF m pn Ls rest))) : Go p e below P (T.setTop (mkF m pc Ls (.int x :: rest))) := by
  by_cases q : icP cd x 0
  · exact Go.ifY X hx hby hd ho hp q (k q)
  · exact Go.ifN X hx hby hd hp2 q (k2 q)
theorem Go.ifnullY {o : Int} (X : Stand p l e R s m args below meth c T locs cells slots) (hx : p.tables.exec = Jvm.exec) (hby : c.code = by_) (hd : decode by_ pc = .ok (.ifnull o, 3)) (ho : 0 ≤ (pc : Int) + o) (hp : ((pc : Int) + o).toNat = pc') (k : Go p e below P (T.setTop (mkF m pc' Ls rest))) : Go p e below P (T.setTop (mkF m pc Ls (.null :: rest))) :=
  Go.st (fun t k => XS.ifnullYes X.here hx rfl rfl (hb hby hd) rfl ho hp k) k
theorem Go.ifnullN {o : Int} {b : Addr} (X : Stand p l e R s m args below meth c T locs cells slots) (hx : p.tables.exec = Jvm.exec) (hby : c.code = by_) (hd : decode by_ pc = .ok (.ifnull o, 3)) (hp : pc + 3 = pc') (k : Go p e below P (T.setTop (mkF m pc' Ls rest))) : Go p e below P (T.setTop (mkF m pc Ls (.ref b :: rest))) := by
  subst hp; exact Go.st (fun t k => XS.ifnullNo X.here hx rfl (hb hby hd) rfl k) k
theorem Go.ifnonnullY {o : Int} {b : Addr} (X : Stand p l e R s m args below meth c T locs cells slots) (hx : p.tables.exec = Jvm.exec) (hby : c.code = by_) (hd : decode by_ pc = .ok (.ifnonnull o, 3)) (ho : 0 ≤ (pc : Int) + o) (hp : ((pc : Int) + o).toNat = pc') (k : Go p e below P (T.setTop (mkF m pc' Ls rest))) : Go p e below P (T.setTop (mkF m pc Ls (.ref b :: rest))) :=
  Go.st (fun t k => XS.ifnonnullYes X.here hx rfl rfl (hb hby hd) rfl ho hp k) k
theorem Go.ifnonnullN {o : Int} (X : Stand p l e R s m args below meth c T locs cells slots) (hx : p.tables.exec = Jvm.exec) (hby : c.code = by_) (hd : decode by_ pc = .ok (.ifnonnull o, 3)) (hp : pc + 3 = pc') (k : Go p e below P (T.setTop (mkF m pc' Ls rest))) : Go p e below P (T.setTop (mkF m pc Ls (.null :: rest))) := by
  subst hp; exact Go.st (fun t k => XS.ifnonnullNo X.here hx rfl (hb hby hd) rfl k) k
theorem Go.acmpEq {o : Int} {b : Addr} (X : Stand p l e R s m args below meth c T locs cells slots) (hx : p.tables.exec = Jvm.exec) (hby : c.code = by_) (hd : decode by_ pc = .ok (.if_acmp .eq o, 3)) (ho : 0 ≤ (pc : Int) + o) (hp : ((pc : Int) + o).toNat = pc') (k : Go p e below P (T.setTop (mkF m pc' Ls rest))) : Go p e below P (T.setTop (mkF m pc Ls (.ref b :: .ref b :: rest))) :=
  Go.st (fun t k => acmp X hx rfl (x := .ref b) (y := .ref b) rfl rfl rfl (hb hby hd) rfl (same := true) (by simp) ho (hp.symm.trans (if_pos rfl).symm) k) k
theorem Go.callS {own : String} {index : Nat} {y : MethodName} {bytes : ByteArray} {maxL : Nat} {ret : Option FieldType} {rm : Room} {W : Nat} {as : Array Value} {Qc : Option Value → Heap → List Loc → Prop} {argsL st : List Value} {ps : List FieldType} {rt : Option FieldType} (X : Stand p l e R s m args below meth c T locs cells slots) (hx : p.tables.exec = Jvm.exec) (hby : c.code = by_) (hZ : Z.Warmed39 s.vm) (hown : s.vm.findClass own = some m.cls)
    (w1 : (Jvm.Cond.methodLink own index y).before a0 Z = true) (w2 : (Jvm.Cond.static y).before a0 Z = true) (w3 : (Jvm.Cond.initialized y.cls).before a0 Z = true) (w4 : (Jvm.Cond.code y bytes maxL ret).before a0 Z = true) (hy : y.cls ≠ "java/lang/invoke/MethodHandle" ∧ y.cls ≠ "java/lang/invoke/VarHandle")
    (hM : Con l Z y bytes maxL ret [] rm as h Qc) (eT : T.heap = h) (hf : rm.frames + 1 ≤ R.frames) (hl : W + (maxL + 11) + rm.locals ≤ R.locals) (hsize : Ls.size = c.maxLocals) (hpd : parseMethodDescriptor y.desc = some ⟨ps, rt⟩) (hlen : argsL.length = ps.length) (hst : st = argsL.reverse ++ rest) (has : argsL.toArray = as) (hW : 0 + (rest.map fun v => v.category).sum ≤ W)
    (hd : decode by_ pc = .ok (.invokestatic index, 3)) (hp : pc + 3 = pc') (hc : cells + rm.cells ≤ R.cells) (hs : slots + rm.slots ≤ R.slots)
    (k : ∀ (v : Option Value) (T' : State) (L : List Loc), Stand p l e R s m args below meth c T' (locs ++ L) (cells + rm.cells) (slots + rm.slots) → Qc v T'.heap L → Go p e below P (T'.setTop (mkF m pc' Ls (v.toList ++ rest)))) : Go p e below P (T.setTop (mkF m pc Ls st)) := by
  subst hp
  obtain ⟨v, _, ⟨T3, L3, k3, n3⟩, -, X3, ⟨Lc3, hQ3, l3, y3, z3⟩, st3⟩ := Jvm.LawKit.callS X hx (y := y) hown (mvT hZ w1) (mvT hZ w2) (mvT hZ w3) (mvT hZ w4) hy (backOf (W := W) hM hZ w4 w3 hf hl) (g := mkF m pc Ls st) rfl hsize (argsL := argsL) (rest := rest) (lenOf hpd hlen) hst hW (hb hby hd) (fun _ _ => ⟨has, eT, hc, hs⟩)
  dsimp only [Pt.U, Pt.locs, Pt.cells, Pt.slots] at X3 l3 y3 z3 st3 hQ3
  subst l3 y3 z3
  exact Go.st st3 (k v T3 Lc3 X3 hQ3)
theorem Go.callI {own : String} {index : Nat} {y : MethodName} {bytes : ByteArray} {maxL : Nat} {rm : Room} {W : Nat} {as : Array Value} {Qc : Option Value → Heap → List Loc → Prop} {argsL st : List Value} {ps : List FieldType} {rt : Option FieldType} {a : Addr} (X : Stand p l e R s m args below meth c T locs cells slots) (hx : p.tables.exec = Jvm.exec) (hby : c.code = by_) (hy1 : y.name = "<init>") (hZ : Z.Warmed39 s.vm) (hown : s.vm.findClass own = some m.cls)
    (w1 : (Jvm.Cond.methodLink own index y).before a0 Z = true) (w2 : (Jvm.Cond.instanceMethod y).before a0 Z = true) (w3 : (Jvm.Cond.initialized y.cls).before a0 Z = true) (w4 : (Jvm.Cond.code y bytes maxL none).before a0 Z = true) (hy : y.cls ≠ "java/lang/invoke/MethodHandle" ∧ y.cls ≠ "java/lang/invoke/VarHandle")
    (hM : Con l Z y bytes maxL none [] rm as h Qc) (eT : T.heap = h) (hf : rm.frames + 1 ≤ R.frames) (hl : W + (maxL + 11) + rm.locals ≤ R.locals) (hsize : Ls.size = c.maxLocals) (hpd : parseMethodDescriptor y.desc = some ⟨ps, rt⟩) (hlen : argsL.length = ps.length) (hst : st = argsL.reverse ++ .ref a :: rest) (has : (.ref a :: argsL).toArray = as) (hW : 0 + (rest.map fun v => v.category).sum ≤ W)
    (hd : decode by_ pc = .ok (.invokespecial index, 3)) (hp : pc + 3 = pc') (hc : cells + rm.cells ≤ R.cells) (hs : slots + rm.slots ≤ R.slots)
    (k : ∀ (v : Option Value) (T' : State) (L : List Loc), Stand p l e R s m args below meth c T' (locs ++ L) (cells + rm.cells) (slots + rm.slots) → Qc v T'.heap L → Go p e below P (T'.setTop (mkF m pc' Ls (v.toList ++ rest)))) : Go p e below P (T.setTop (mkF m pc Ls st)) := by
  subst hp
  obtain ⟨v, _, ⟨T3, L3, k3, n3⟩, -, X3, ⟨Lc3, hQ3, l3, y3, z3⟩, st3⟩ := X.specialBack hx (y := y) hy1 hown (mvT hZ w1) (mvT hZ w2) (mvT hZ w4) hy (backOf (W := W) hM hZ w4 w3 hf hl) (g := mkF m pc Ls st) rfl hsize (Steps.refl _) (a := a) (argsL := argsL) (rest := rest) (lenOf hpd hlen) hst hW (hb hby hd) (fun _ _ => ⟨has, eT, hc, hs⟩)
  dsimp only [Pt.U, Pt.locs, Pt.cells, Pt.slots] at X3 l3 y3 z3 st3 hQ3
  subst l3 y3 z3
  exact Go.via st3 (k v T3 Lc3 X3 hQ3)
theorem Go.callV {own C : String} {index : Nat} {y z : MethodName} {bytes : ByteArray} {maxL : Nat} {ret : Option FieldType} {rm : Room} {W : Nat} {as : Array Value} {Qc : Option Value → Heap → List Loc → Prop} {argsL st : List Value} {ps : List FieldType} {rt : Option FieldType} {a : Addr} (X : Stand p l e R s m args below meth c T locs cells slots) (hx : p.tables.exec = Jvm.exec) (hby : c.code = by_) (hZ : Z.Warmed39 s.vm) (hown : s.vm.findClass own = some m.cls)
    (w1 : (Jvm.Cond.methodLink own index y).before a0 Z = true) (w2 : (Jvm.Cond.declares y).before a0 Z = true) (hnf : NotFace s y) (w5 : (Jvm.Cond.selects C y z).before a0 Z = true) (w6 : (Jvm.Cond.instanceMethod z).before a0 Z = true) (w3 : (Jvm.Cond.initialized z.cls).before a0 Z = true) (w4 : (Jvm.Cond.code z bytes maxL ret).before a0 Z = true) (hy : y.cls ≠ "java/lang/invoke/MethodHandle" ∧ y.cls ≠ "java/lang/invoke/VarHandle")
    (hM : Con l Z z bytes maxL ret [] rm as h Qc) (eT : T.heap = h) (hE : Exa Z h a C) (hf : rm.frames + 1 ≤ R.frames) (hl : W + (maxL + 11) + rm.locals ≤ R.locals) (hsize : Ls.size = c.maxLocals) (hpd : parseMethodDescriptor y.desc = some ⟨ps, rt⟩) (hlen : argsL.length = ps.length) (hst : st = argsL.reverse ++ .ref a :: rest) (has : (.ref a :: argsL).toArray = as) (hW : 0 + (rest.map fun v => v.category).sum ≤ W)
    (hd : decode by_ pc = .ok (.invokevirtual index, 3)) (hp : pc + 3 = pc') (hc : cells + rm.cells ≤ R.cells) (hs : slots + rm.slots ≤ R.slots)
    (k : ∀ (v : Option Value) (T' : State) (L : List Loc), Stand p l e R s m args below meth c T' (locs ++ L) (cells + rm.cells) (slots + rm.slots) → Qc v T'.heap L → Go p e below P (T'.setTop (mkF m pc' Ls (v.toList ++ rest)))) : Go p e below P (T.setTop (mkF m pc Ls st)) := by
  subst hp
  obtain ⟨cq, kq, q4a, q4b, q4c⟩ := isOf (T := T) hZ eT hE
  obtain ⟨v, _, ⟨T3, L3, k3, n3⟩, -, X3, ⟨Lc3, hQ3, l3, y3, z3⟩, st3⟩ := X.virtualBack hx (y := y) (z := z) hown (mvT hZ w1) (mvT hZ w2) hnf (mvT hZ w5) (mvT hZ w6) hy (backOf (W := W) hM hZ w4 w3 hf hl) q4a q4c (g := mkF m pc Ls st) rfl hsize (Steps.refl _) (argsL := argsL) (rest := rest) (lenOf hpd hlen) hst hW (hb hby hd) (fun _ _ => ⟨has, eT, hc, hs⟩)
  dsimp only [Pt.U, Pt.locs, Pt.cells, Pt.slots] at X3 l3 y3 z3 st3 hQ3
  subst l3 y3 z3
  exact Go.via st3 (k v T3 Lc3 X3 hQ3)

theorem Go.nmI {x : Int32} (k : ∀ v : Int32, v = x → Go p e below P (T.setTop (mkF m pc Ls (.int v :: rest)))) : Go p e below P (T.setTop (mkF m pc Ls (.int x :: rest))) := k _ rfl
theorem Go.nmJ {x : Int64} (k : ∀ v : Int64, v = x → Go p e below P (T.setTop (mkF m pc Ls (.long v :: rest)))) : Go p e below P (T.setTop (mkF m pc Ls (.long x :: rest))) := k _ rfl
theorem Go.cut {α : Type} {F : α → State} {x : α} {S : State} (k : Go p e below P (F x)) (k2 : (∀ b, b = x → Go p e below P (F b)) → Go p e below P S) : Go p e below P S := k2 (fun b hb => hb ▸ k)
theorem Go.cutAll {α : Type} {F : α → State} {S : State} (k : ∀ b, Go p e below P (F b)) (k2 : (∀ b, Go p e below P (F b)) → Go p e below P S) : Go p e below P S := k2 k
theorem Go.loop {α : Type} {F : α → State} {I : α → Prop} {μ : α → Nat} (step : ∀ x, I x → (∀ y, I y → μ y < μ x → Go p e below P (F y)) → Go p e below P (F x)) (x : α) (hx : I x) : Go p e below P (F x) := by
  have key : ∀ (n : Nat) (x : α), μ x < n → I x → Go p e below P (F x) := by
    intro n
    induction n with
    | zero => intro x hn; exact absurd hn (Nat.not_lt_zero _)
    | succ n ih => intro x hn hi; exact step x hi (fun y hy hlt => ih y (by omega) hy)
  exact key _ x (Nat.lt_succ_self _) hx
/-- what a law leaves: true, and nothing that stood is written -/
def LQ (n0 : Nat) (v : Option Value) (h : Heap) (L : List Loc) : Prop := v = some (.int 1) ∧ Fr n0 L
end OwnGo
section OwnHeap
variable {p : Program} {l : Launch} {e : Env} {R : Room} {s : State} {m : MethodId} {args : Array Value} {below : List Frame} {meth : Method} {c : Code} {T : State} {locs : List Loc} {cells slots : Nat} {Z : State} {a0 : Array Value} {h h' : Heap} {Q : Option Value → Heap → List Loc → Prop} {P : Option Value → State → Prop} {K N : Nat} {by_ : ByteArray} {pc pc' : Nat} {Ls : Array Slot} {rest : List Value} {a b : Addr} {ty : FieldType} {z i : Int} {f g : Int → Value} {sl : Nat} {v : Value} {ws : List Addr}
/-- an array: its length z, what place i holds -/
def Ar (Z : State) (h : Heap) (a : Addr) (ty : FieldType) (z : Int) (f : Int → Value) : Prop := ∃ cl : Cell, Arr Z h a cl ty ∧ (cl.slots.size : Int) = z ∧ z < 2147483648 ∧ ∀ i : Nat, (i : Int) < z → cl.slots[i]? = some (f i)
theorem Ar.ext (F : Ar Z h a ty z f) (E : Ext h h') : Ar Z h' a ty z f := by obtain ⟨cl, A, r⟩ := F; exact ⟨cl, A.ext E, r⟩
theorem Ar.other (F : Ar Z h a ty z f) (W : Wr h h' b sl v) (q : a ≠ b) : Ar Z h' a ty z f := by obtain ⟨cl, A, r⟩ := F; exact ⟨cl, A.other W q, r⟩
theorem Ar.keep (F : Ar Z h a ty z f) (K : Keep h h' ws) (q : a ∉ ws) : Ar Z h' a ty z f := by obtain ⟨cl, A, r⟩ := F; exact ⟨cl, ⟨K.2.1 a cl A.1 q, A.2⟩, r⟩
theorem Ar.lt (F : Ar Z h a ty z f) : a < h.size := by obtain ⟨cl, A, -⟩ := F; exact A.lt
theorem Ar.congr (F : Ar Z h a ty z f) (q : ∀ i, 0 ≤ i → i < z → f i = g i) : Ar Z h a ty z g := by
  obtain ⟨cl, A, r1, r2, r3⟩ := F
  exact ⟨cl, A, r1, r2, fun i hi => by rw [r3 i hi, q i (by omega) hi]⟩
theorem Ar.bound (F : Ar Z h a ty z f) : 0 ≤ z ∧ z < 2147483648 := by obtain ⟨cl, A, r1, r2, -⟩ := F; omega
theorem Ar.set (F : Ar Z h a ty z f) (W : Wr h h' a i.toNat v) (hi : 0 ≤ i) : Ar Z h' a ty z (fun q => if q = i then v else f q) := by
  obtain ⟨cl, A, r1, r2, r3⟩ := F
  obtain ⟨cl2, w1, w2, w3, w4⟩ := W
  cases w1.symm.trans A.1
  refine ⟨_, A.same ⟨cl, A.1, w2, w3, w4⟩, by rw [sz_set]; exact r1, r2, fun k hk => ?_⟩
  by_cases e : (k : Int) = i
  · have e' : k = i.toNat := by omega
    subst e'
    simp only [Cell.setSlot, if_pos e]
    rw [Array.getElem?_setIfInBounds_self_of_lt w3]
  · show _ = some (if (k : Int) = i then v else f k)
    rw [if_neg e]
    simp only [Cell.setSlot]
    rw [Array.getElem?_setIfInBounds_ne (by omega)]
    exact r3 k hk
theorem Ar.new {cA : ClassId} {n : Int32} (A : Arr Z h a (newA cA ty n) ty) (q : n.toInt = z) (q0 : 0 ≤ z) : Ar Z h a ty z (fun _ => defaultValue ty) := by
  have hs : ((newA cA ty n).slots.size : Int) = z := by rw [sz_new]; simp only [Int32.toNatClampNeg]; omega
  refine ⟨_, A, hs, by have := n.toInt_lt; omega, fun i hi => ?_⟩
  have hlt : i < n.toNatClampNeg := by rw [sz_new] at hs; omega
  simp [newA, Array.getElem?_replicate, hlt]
theorem in_of {cl : Cell} {j : Int32} (r1 : (cl.slots.size : Int) = z) (hj : j.toInt = i) (h0 : 0 ≤ i) (h1 : i < z) : ¬ (j < 0 ∨ cl.slots.size ≤ j.toNatClampNeg) ∧ j.toNatClampNeg = i.toNat := by
  have e : j.toNatClampNeg = i.toNat := by simp only [Int32.toNatClampNeg, hj]
  refine ⟨fun q => ?_, e⟩
  rcases q with q | q
  · rw [Int32.lt_iff_toInt_lt, hj, show (0 : Int32).toInt = 0 from by decide] at q; omega
  · rw [e] at q; omega
theorem Go.alen {zv : Int32} (X : Stand p l e R s m args below meth c T locs cells slots) (hx : p.tables.exec = Jvm.exec) (hby : c.code = by_) (hZ : Z.Warmed39 s.vm) (eT : T.heap = h) (A : Ar Z h a ty z f) (hd : decode by_ pc = .ok (.arraylength, 1)) (hp : pc + 1 = pc') (hz : zv.toInt = z) (k : Go p e below P (T.setTop (mkF m pc' Ls (.int zv :: rest)))) : Go p e below P (T.setTop (mkF m pc Ls (.ref a :: rest))) := by
  subst hp
  obtain ⟨cl, A, r1, r2, -⟩ := A
  have e1 : cl.slots.size.toInt32 = zv := Int32.toInt_inj.mp (by rw [len_toInt (by omega), hz]; exact r1)
  exact Go.st (fun t k => X.arraylength hx (cell := cl) (by rw [eT]; exact A.1) (State.isArrayOf_alike hZ.alike A.2.1) (g := mkF m pc Ls (.ref a :: rest)) rfl rfl (hb hby hd) _ (by rw [e1]; exact k)) k
theorem Go.iaload {j : Int32} (X : Stand p l e R s m args below meth c T locs cells slots) (hx : p.tables.exec = Jvm.exec) (hby : c.code = by_) (hZ : Z.Warmed39 s.vm) (eT : T.heap = h) (A : Ar Z h a .int z f) (hd : decode by_ pc = .ok (.iaload, 1)) (hp : pc + 1 = pc') (hj : j.toInt = i) (h0 : 0 ≤ i) (h1 : i < z) (hv : f i = v) (k : Go p e below P (T.setTop (mkF m pc' Ls (v :: rest)))) : Go p e below P (T.setTop (mkF m pc Ls (.int j :: .ref a :: rest))) := by
  subst hp hv
  obtain ⟨cl, A, r1, r2, r3⟩ := A
  obtain ⟨q1, q2⟩ := in_of r1 hj h0 h1
  exact Go.st (fun t k => X.iaload hx (j := j) (v := f i) (by rw [eT]; exact A.1) (State.isArrayOf_alike hZ.alike A.2.1) A.2.2 q1 (by rw [q2, r3 _ (by omega)]; congr 2; omega) (g := mkF m pc Ls (.int j :: .ref a :: rest)) rfl rfl (hb hby hd) _ k) k
theorem Go.caload {j : Int32} (X : Stand p l e R s m args below meth c T locs cells slots) (hx : p.tables.exec = Jvm.exec) (hby : c.code = by_) (hZ : Z.Warmed39 s.vm) (eT : T.heap = h) (A : Ar Z h a .char z f) (hd : decode by_ pc = .ok (.caload, 1)) (hp : pc + 1 = pc') (hj : j.toInt = i) (h0 : 0 ≤ i) (h1 : i < z) (hv : f i = v) (k : Go p e below P (T.setTop (mkF m pc' Ls (v :: rest)))) : Go p e below P (T.setTop (mkF m pc Ls (.int j :: .ref a :: rest))) := by
  subst hp hv
  obtain ⟨cl, A, r1, r2, r3⟩ := A
  obtain ⟨q1, q2⟩ := in_of r1 hj h0 h1
  exact Go.st (fun t k => X.caload hx (j := j) (v := f i) (by rw [eT]; exact A.1) (State.isArrayOf_alike hZ.alike A.2.1) A.2.2 q1 (by rw [q2, r3 _ (by omega)]; congr 2; omega) (g := mkF m pc Ls (.int j :: .ref a :: rest)) rfl rfl (hb hby hd) _ k) k
theorem Go.baload {j : Int32} (X : Stand p l e R s m args below meth c T locs cells slots) (hx : p.tables.exec = Jvm.exec) (hby : c.code = by_) (hZ : Z.Warmed39 s.vm) (eT : T.heap = h) (A : Ar Z h a .byte z f) (hd : decode by_ pc = .ok (.baload, 1)) (hp : pc + 1 = pc') (hj : j.toInt = i) (h0 : 0 ≤ i) (h1 : i < z) (hv : f i = v) (k : Go p e below P (T.setTop (mkF m pc' Ls (v :: rest)))) : Go p e below P (T.setTop (mkF m pc Ls (.int j :: .ref a :: rest))) := by
  subst hp hv
  obtain ⟨cl, A, r1, r2, r3⟩ := A
  obtain ⟨q1, q2⟩ := in_of r1 hj h0 h1
  exact Go.st (fun t k => X.baloadBytes hx (j := j) (v := f i) (by rw [eT]; exact A.1) (State.isArrayOf_alike hZ.alike A.2.1) A.2.2 q1 (by rw [q2, r3 _ (by omega)]; congr 2; omega) (g := mkF m pc Ls (.int j :: .ref a :: rest)) rfl rfl (hb hby hd) _ k) k
theorem Go.laload {j : Int32} (X : Stand p l e R s m args below meth c T locs cells slots) (hx : p.tables.exec = Jvm.exec) (hby : c.code = by_) (hZ : Z.Warmed39 s.vm) (eT : T.heap = h) (A : Ar Z h a .long z f) (hd : decode by_ pc = .ok (.laload, 1)) (hp : pc + 1 = pc') (hj : j.toInt = i) (h0 : 0 ≤ i) (h1 : i < z) (hv : f i = v) (k : Go p e below P (T.setTop (mkF m pc' Ls (v :: rest)))) : Go p e below P (T.setTop (mkF m pc Ls (.int j :: .ref a :: rest))) := by
  subst hp hv
  obtain ⟨cl, A, r1, r2, r3⟩ := A
  obtain ⟨q1, q2⟩ := in_of r1 hj h0 h1
  exact Go.st (fun t k => X.laload hx (j := j) (v := f i) (by rw [eT]; exact A.1) (State.isArrayOf_alike hZ.alike A.2.1) A.2.2 q1 (by rw [q2, r3 _ (by omega)]; congr 2; omega) (g := mkF m pc Ls (.int j :: .ref a :: rest)) rfl rfl (hb hby hd) _ k) k
theorem Go.saload {j : Int32} (X : Stand p l e R s m args below meth c T locs cells slots) (hx : p.tables.exec = Jvm.exec) (hby : c.code = by_) (hZ : Z.Warmed39 s.vm) (eT : T.heap = h) (A : Ar Z h a .short z f) (hd : decode by_ pc = .ok (.saload, 1)) (hp : pc + 1 = pc') (hj : j.toInt = i) (h0 : 0 ≤ i) (h1 : i < z) (hv : f i = v) (k : Go p e below P (T.setTop (mkF m pc' Ls (v :: rest)))) : Go p e below P (T.setTop (mkF m pc Ls (.int j :: .ref a :: rest))) := by
  subst hp hv
  obtain ⟨cl, A, r1, r2, r3⟩ := A
  obtain ⟨q1, q2⟩ := in_of r1 hj h0 h1
  exact Go.st (fun t k => X.saload hx (j := j) (v := f i) (by rw [eT]; exact A.1) (State.isArrayOf_alike hZ.alike A.2.1) A.2.2 q1 (by rw [q2, r3 _ (by omega)]; congr 2; omega) (g := mkF m pc Ls (.int j :: .ref a :: rest)) rfl rfl (hb hby hd) _ k) k
theorem Go.aaload {j : Int32} (X : Stand p l e R s m args below meth c T locs cells slots) (hx : p.tables.exec = Jvm.exec) (hby : c.code = by_) (hZ : Z.Warmed39 s.vm) (eT : T.heap = h) (A : Ar Z h a ty z f) (hty : ty.isReference = true) (hd : decode by_ pc = .ok (.aaload, 1)) (hp : pc + 1 = pc') (hj : j.toInt = i) (h0 : 0 ≤ i) (h1 : i < z) (hv : f i = v) (k : Go p e below P (T.setTop (mkF m pc' Ls (v :: rest)))) : Go p e below P (T.setTop (mkF m pc Ls (.int j :: .ref a :: rest))) := by
  subst hp hv
  obtain ⟨cl, A, r1, r2, r3⟩ := A
  obtain ⟨q1, q2⟩ := in_of r1 hj h0 h1
  exact Go.st (fun t k => X.aaload hx (j := j) (v := f i) (by rw [eT]; exact A.1) (State.isArrayOf_alike hZ.alike A.2.1) hty A.2.2 q1 (by rw [q2, r3 _ (by omega)]; congr 2; omega) (g := mkF m pc Ls (.int j :: .ref a :: rest)) rfl rfl (hb hby hd) _ k) k
theorem Go.iastore {j : Int32} {x : Int32} (X : Stand p l e R s m args below meth c T locs cells slots) (hx : p.tables.exec = Jvm.exec) (hby : c.code = by_) (hZ : Z.Warmed39 s.vm) (eT : T.heap = h) (A : Ar Z h a .int z f) (hd : decode by_ pc = .ok (.iastore, 1)) (hp : pc + 1 = pc') (hj : j.toInt = i) (h0 : 0 ≤ i) (h1 : i < z)
    (k : ∀ (T' : State) (h' : Heap), Stand p l e R s m args below meth c T' (locs ++ [⟨a, i.toNat⟩]) cells slots → T'.heap = h' → Wr h h' a i.toNat (.int x) → Ar Z h' a .int z (fun q => if q = i then (.int x) else f q) → Go p e below P (T'.setTop (mkF m pc' Ls rest))) : Go p e below P (T.setTop (mkF m pc Ls (.int x :: .int j :: .ref a :: rest))) := by
  subst hp
  have A0 := A
  obtain ⟨cl, A, r1, r2, r3⟩ := A
  obtain ⟨q1, q2⟩ := in_of r1 hj h0 h1
  obtain ⟨T', h', X', e', W', st⟩ := stI X hx hZ eT A (j := j) q1 (g := mkF m pc Ls (.int x :: .int j :: .ref a :: rest)) rfl rfl (hb hby hd)
  rw [q2] at X' W'
  exact Go.st st (k T' h' X' e' W' (A0.set W' h0))
theorem Go.castore {j : Int32} {x : Int32} (X : Stand p l e R s m args below meth c T locs cells slots) (hx : p.tables.exec = Jvm.exec) (hby : c.code = by_) (hZ : Z.Warmed39 s.vm) (eT : T.heap = h) (A : Ar Z h a .char z f) (hd : decode by_ pc = .ok (.castore, 1)) (hp : pc + 1 = pc') (hj : j.toInt = i) (h0 : 0 ≤ i) (h1 : i < z)
    (k : ∀ (T' : State) (h' : Heap), Stand p l e R s m args below meth c T' (locs ++ [⟨a, i.toNat⟩]) cells slots → T'.heap = h' → Wr h h' a i.toNat (.int (nar .char x)) → Ar Z h' a .char z (fun q => if q = i then (.int (nar .char x)) else f q) → Go p e below P (T'.setTop (mkF m pc' Ls rest))) : Go p e below P (T.setTop (mkF m pc Ls (.int x :: .int j :: .ref a :: rest))) := by
  subst hp
  have A0 := A
  obtain ⟨cl, A, r1, r2, r3⟩ := A
  obtain ⟨q1, q2⟩ := in_of r1 hj h0 h1
  obtain ⟨T', h', X', e', W', st⟩ := stC X hx hZ eT A (j := j) q1 (g := mkF m pc Ls (.int x :: .int j :: .ref a :: rest)) rfl rfl (hb hby hd)
  rw [q2] at X' W'
  exact Go.st st (k T' h' X' e' W' (A0.set W' h0))
theorem Go.bastore {j : Int32} {x : Int32} (X : Stand p l e R s m args below meth c T locs cells slots) (hx : p.tables.exec = Jvm.exec) (hby : c.code = by_) (hZ : Z.Warmed39 s.vm) (eT : T.heap = h) (A : Ar Z h a .byte z f) (hd : decode by_ pc = .ok (.bastore, 1)) (hp : pc + 1 = pc') (hj : j.toInt = i) (h0 : 0 ≤ i) (h1 : i < z)
    (k : ∀ (T' : State) (h' : Heap), Stand p l e R s m args below meth c T' (locs ++ [⟨a, i.toNat⟩]) cells slots → T'.heap = h' → Wr h h' a i.toNat (.int (nar .byte x)) → Ar Z h' a .byte z (fun q => if q = i then (.int (nar .byte x)) else f q) → Go p e below P (T'.setTop (mkF m pc' Ls rest))) : Go p e below P (T.setTop (mkF m pc Ls (.int x :: .int j :: .ref a :: rest))) := by
  subst hp
  have A0 := A
  obtain ⟨cl, A, r1, r2, r3⟩ := A
  obtain ⟨q1, q2⟩ := in_of r1 hj h0 h1
  obtain ⟨T', h', X', e', W', st⟩ := stB X hx hZ eT A (j := j) q1 (g := mkF m pc Ls (.int x :: .int j :: .ref a :: rest)) rfl rfl (hb hby hd)
  rw [q2] at X' W'
  exact Go.st st (k T' h' X' e' W' (A0.set W' h0))
theorem Go.lastore {j : Int32} {x : Int64} (X : Stand p l e R s m args below meth c T locs cells slots) (hx : p.tables.exec = Jvm.exec) (hby : c.code = by_) (hZ : Z.Warmed39 s.vm) (eT : T.heap = h) (A : Ar Z h a .long z f) (hd : decode by_ pc = .ok (.lastore, 1)) (hp : pc + 1 = pc') (hj : j.toInt = i) (h0 : 0 ≤ i) (h1 : i < z)
    (k : ∀ (T' : State) (h' : Heap), Stand p l e R s m args below meth c T' (locs ++ [⟨a, i.toNat⟩]) cells slots → T'.heap = h' → Wr h h' a i.toNat (.long x) → Ar Z h' a .long z (fun q => if q = i then (.long x) else f q) → Go p e below P (T'.setTop (mkF m pc' Ls rest))) : Go p e below P (T.setTop (mkF m pc Ls (.long x :: .int j :: .ref a :: rest))) := by
  subst hp
  have A0 := A
  obtain ⟨cl, A, r1, r2, r3⟩ := A
  obtain ⟨q1, q2⟩ := in_of r1 hj h0 h1
  obtain ⟨T', h', X', e', W', st⟩ := stJ X hx hZ eT A (j := j) q1 (g := mkF m pc Ls (.long x :: .int j :: .ref a :: rest)) rfl rfl (hb hby hd)
  rw [q2] at X' W'
  exact Go.st st (k T' h' X' e' W' (A0.set W' h0))
theorem Go.aastore {j : Int32} (X : Stand p l e R s m args below meth c T locs cells slots) (hx : p.tables.exec = Jvm.exec) (hby : c.code = by_) (hZ : Z.Warmed39 s.vm) (eT : T.heap = h) (A : Ar Z h a ty z f) (hty : ty.isReference = true) (F : Sto Z h a v) (hd : decode by_ pc = .ok (.aastore, 1)) (hp : pc + 1 = pc') (hj : j.toInt = i) (h0 : 0 ≤ i) (h1 : i < z)
    (k : ∀ (T' : State) (h' : Heap), Stand p l e R s m args below meth c T' (locs ++ [⟨a, i.toNat⟩]) cells slots → T'.heap = h' → Wr h h' a i.toNat v → Ar Z h' a ty z (fun q => if q = i then v else f q) → Go p e below P (T'.setTop (mkF m pc' Ls rest))) : Go p e below P (T.setTop (mkF m pc Ls (v :: .int j :: .ref a :: rest))) := by
  subst hp
  have A0 := A
  obtain ⟨cl, A, r1, r2, r3⟩ := A
  obtain ⟨q1, q2⟩ := in_of r1 hj h0 h1
  obtain ⟨T', h', X', e', W', st⟩ := stR X hx hZ eT A (j := j) q1 hty F (g := mkF m pc Ls (v :: .int j :: .ref a :: rest)) rfl rfl (hb hby hd)
  rw [q2] at X' W'
  exact Go.st st (k T' h' X' e' W' (A0.set W' h0))
theorem Go.newarr {aty : ArrayType} {n : Int32} {cap : Nat} (X : Stand p l e R s m args below meth c T locs cells slots) (hx : p.tables.exec = Jvm.exec) (hby : c.code = by_) (hZ : Z.Warmed39 s.vm) (w : (Jvm.Cond.arrayClass (newarray.typeOf aty)).before a0 Z = true) (eT : T.heap = h) (hd : decode by_ pc = .ok (.newarray aty, 2)) (hp : pc + 2 = pc') (hz : n.toInt = z) (h0 : 0 ≤ z) (hcap : z ≤ cap) (hb0 : cap * 8 ≤ 536870912) (hc : cells + 1 ≤ R.cells) (hl : slots + cap ≤ R.slots)
    (k : ∀ (b : Addr) (T' : State) (h' : Heap), b = h.size → Stand p l e R s m args below meth c T' locs (cells + 1) (slots + cap) → T'.heap = h' → Ext h h' → Ar Z h' b (newarray.typeOf aty) z (fun _ => defaultValue (newarray.typeOf aty)) → Go p e below P (T'.setTop (mkF m pc' Ls (.ref b :: rest)))) : Go p e below P (T.setTop (mkF m pc Ls (.int n :: rest))) := by
  subst hp
  obtain ⟨T', h', cA, X', e', E', A', st⟩ := newP X hx hZ w eT (g := mkF m pc Ls (.int n :: rest)) rfl (hb hby hd) rfl (by rw [Int32.lt_iff_toInt_lt, hz, show (0 : Int32).toInt = 0 from by decide]; omega) (cap := cap) (by simp only [Int32.toNatClampNeg, hz]; omega) hb0 hc hl
  exact Go.st st (k _ T' h' rfl X' e' E' (Ar.new A' hz h0))
theorem Go.new_ {own C : String} {index n : Nat} (X : Stand p l e R s m args below meth c T locs cells slots) (hx : p.tables.exec = Jvm.exec) (hby : c.code = by_) (hZ : Z.Warmed39 s.vm) (hown : s.vm.findClass own = some m.cls) (w : (Jvm.Cond.classLink own index C).before a0 Z = true) (wi : (Jvm.Cond.instantiable C n).before a0 Z = true) (wz : (Jvm.Cond.initialized C).before a0 Z = true) (eT : T.heap = h) (hd : decode by_ pc = .ok (.new index, 3)) (hp : pc + 3 = pc') (hc : cells + 1 ≤ R.cells) (hl : slots + n ≤ R.slots)
    (k : ∀ (b : Addr) (T' : State) (h' : Heap), b = h.size → Stand p l e R s m args below meth c T' locs (cells + 1) (slots + n) → T'.heap = h' → Ext h h' → Exa Z h' b C → (∀ {O nm d : String} {ty : FieldType}, Laid Z a0 C O nm d → parseFieldDescriptor d = some ty → Fld Z h' b O nm d (defaultValue ty)) → Go p e below P (T'.setTop (mkF m pc' Ls (.ref b :: rest)))) : Go p e below P (T.setTop (mkF m pc Ls rest)) := by
  subst hp
  obtain ⟨T', h', X', e', E', A', D', -, st⟩ := newO X hx hZ hown w wi wz eT (g := mkF m pc Ls rest) rfl (hb hby hd) hc hl
  exact Go.st st (k _ T' h' rfl X' e' E' A' D')
theorem Go.getF {own R0 O n d : String} {index : Nat} (X : Stand p l e R s m args below meth c T locs cells slots) (hx : p.tables.exec = Jvm.exec) (hby : c.code = by_) (hZ : Z.Warmed39 s.vm) (hown : s.vm.findClass own = some m.cls) (w : (Jvm.Cond.fieldLink own index R0 n d).before a0 Z = true) (via : Via Z R0 O n d) (eT : T.heap = h) (F : Fld Z h a O n d v) (hd : decode by_ pc = .ok (.getfield index, 3)) (hp : pc + 3 = pc')
    (k : ∀ T' : State, Stand p l e R s m args below meth c T' locs cells slots → T'.heap = h → Go p e below P (T'.setTop (mkF m pc' Ls (v :: rest)))) : Go p e below P (T.setTop (mkF m pc Ls (.ref a :: rest))) := by
  subst hp
  obtain ⟨T', X', e', st⟩ := Jvm.RoadKit.getF X hx hZ hown (host := "") (Or.inl w) via eT F (g := mkF m pc Ls (.ref a :: rest)) rfl rfl (hb hby hd)
  exact Go.st st (k T' X' e')
theorem Go.getSt {own R0 O n d : String} {index : Nat} (X : Stand p l e R s m args below meth c T locs cells slots) (hx : p.tables.exec = Jvm.exec) (hby : c.code = by_) (hZ : Z.Warmed39 s.vm) (hown : s.vm.findClass own = some m.cls) (w : (Jvm.Cond.fieldLink own index R0 n d).before a0 Z = true) (via : Via Z R0 O n d) (eT : T.heap = h) (F : Sta Z h O n d v) (hd : decode by_ pc = .ok (.getstatic index, 3)) (hp : pc + 3 = pc')
    (k : ∀ T' : State, Stand p l e R s m args below meth c T' locs cells slots → T'.heap = h → Go p e below P (T'.setTop (mkF m pc' Ls (v :: rest)))) : Go p e below P (T.setTop (mkF m pc Ls rest)) := by
  subst hp
  obtain ⟨T', X', e', st⟩ := Jvm.RoadKit.getS X hx hZ (host := "") hown w via eT F (g := mkF m pc Ls rest) rfl (hb hby hd)
  exact Go.st st (k T' X' e')
theorem Go.putF {own R0 O n d C : String} {index kk : Nat} {old : Value} (X : Stand p l e R s m args below meth c T locs cells slots) (hx : p.tables.exec = Jvm.exec) (hby : c.code = by_) (hZ : Z.Warmed39 s.vm) (hown : s.vm.findClass own = some m.cls) (w : (Jvm.Cond.fieldLink own index R0 n d).before a0 Z = true) (via : Via Z R0 O n d) (eT : T.heap = h) (F : Fld Z h a O n d old) (E : Exa Z h a C) (L : (Jvm.Cond.lays C O n d).before a0 Z = true ∨ ((Jvm.Cond.laysFinal C O n d).before a0 Z = true ∧ own = O ∧ meth.name = "<init>")) (wi : (Jvm.Cond.instantiable C kk).before a0 Z = true)
    (hty : parseFieldDescriptor d = some ty) (hn : narrow ty v = v) (hf : fits ty v = true) (hd : decode by_ pc = .ok (.putfield index, 3)) (hp : pc + 3 = pc')
    (k : ∀ (T' : State) (h' : Heap), Stand p l e R s m args below meth c T' (locs ++ [⟨a, slotOf Z O n d⟩]) cells slots → T'.heap = h' → Wr h h' a (slotOf Z O n d) v → Go p e below P (T'.setTop (mkF m pc' Ls rest))) : Go p e below P (T.setTop (mkF m pc Ls (v :: .ref a :: rest))) := by
  subst hp
  obtain ⟨T', h', X', e', W', st⟩ := Jvm.RoadKit.putF X hx hZ hown (host := "") (Or.inl w) via eT F E L wi hty hn hf (g := mkF m pc Ls (v :: .ref a :: rest)) rfl rfl (hb hby hd)
  exact Go.st st (k T' h' X' e' W')
theorem Go.initO {own : String} {idx W : Nat} (X : Stand p l e R s m args below meth c T locs cells slots) (hx : p.tables.exec = Jvm.exec) (hby : c.code = by_) (hZ : Z.Warmed39 s.vm) (hown : s.vm.findClass own = some m.cls) (w1 : (Jvm.Cond.methodLink own idx Lib.objectInit).before a0 Z = true) (w2 : (Jvm.Cond.instanceMethod Lib.objectInit).before a0 Z = true) (w3 : (Jvm.Cond.code Lib.objectInit ⟨#[0xb1]⟩ 1 none).before a0 Z = true) (eT : T.heap = h) (hsize : Ls.size = c.maxLocals) (hd : decode by_ pc = .ok (.invokespecial idx, 3)) (hp : pc + 3 = pc') (hf : 1 ≤ R.frames) (hW : 0 + (rest.map fun v => v.category).sum ≤ W) (hl : W + 12 ≤ R.locals)
    (k : ∀ T' : State, Stand p l e R s m args below meth c T' locs cells slots → T'.heap = h → Go p e below P (T'.setTop (mkF m pc' Ls rest))) : Go p e below P (T.setTop (mkF m pc Ls (.ref a :: rest))) := by
  subst hp
  obtain ⟨T', X', e', st⟩ := Jvm.RoadKit.initO X hx hZ hown w1 w2 w3 eT (g := mkF m pc Ls (.ref a :: rest)) rfl hsize rfl (hb hby hd) hf (W := W) hW hl
  exact Go.st st (k T' X' e')
theorem Fr.one {n : Nat} (q : n ≤ a) : Fr n [⟨a, sl⟩] := fun y hy => by cases List.mem_singleton.mp hy; exact q
end OwnHeap

end Jvm.RoadKit
namespace Jvm.Pilot.@@N@@
open Jvm Jvm.ClassFile Sem Op Lib Jvm.Free Jvm.Stand Jvm.LawKit Jvm.RoadKit Bundle Jvm.Pilot.@@N@@.Jvm.D
def own_at (k n : Int32) : Int32 := if k = 0 then 1 else if k = 1 then n else if k = 2 then 3 else 1
def own_df (k n : Int32) : Int32 := if k = 0 then n else if k = 1 then 1 else if k = 2 then 2 else 1
def own_pl (k n : Int32) : Int32 := if k = 0 then 1 - n else if k = 1 then (if n = 1 then 0 else n) else if k = 2 then 1 else 0
def own_sg (v : Int32) : Int32 := if v < 0 then -1 else if 0 < v then 1 else 0
def own_lc (x y : Int64) : Int32 := if x < y then -1 else if x = y then 0 else 1
def own_w (a b : Int32) : Int32 := if a < b then -1 else if b < a then 1 else 0
def own_ok (x y : Int32) : Prop := (1 ≤ x.toInt ∧ x.toInt ≤ 999999999) ∧ (1 ≤ y.toInt ∧ y.toInt ≤ 999999999) ∧ (x = 1 ∨ y = 1 ∨ (x = 3 ∧ y = 2))
theorem own_0 : (0 : Int32).toInt = 0 := by decide
theorem own_1 : (1 : Int32).toInt = 1 := by decide
theorem own_2 : (2 : Int32).toInt = 2 := by decide
theorem own_3 : (3 : Int32).toInt = 3 := by decide
theorem own_9 : (999999999 : Int32).toInt = 999999999 := by decide
theorem own_k4 (x : Int32) : ((x &&& 2147483647) % 4) = 0 ∨ ((x &&& 2147483647) % 4) = 1 ∨ ((x &&& 2147483647) % 4) = 2 ∨ ((x &&& 2147483647) % 4) = 3 := by
  have e := c_mask x 2147483647 31 (by decide) (by decide)
  have q := (c_irem (x &&& 2147483647) 4 4 (by decide)).1 (by omega)
  have r : ((x &&& 2147483647) % 4).toInt = 0 ∨ ((x &&& 2147483647) % 4).toInt = 1 ∨ ((x &&& 2147483647) % 4).toInt = 2 ∨ ((x &&& 2147483647) % 4).toInt = 3 := by omega
  rcases r with r | r | r | r
  · exact Or.inl (Int32.toInt_inj.mp (by rw [r, own_0]))
  · exact Or.inr (Or.inl (Int32.toInt_inj.mp (by rw [r, own_1])))
  · exact Or.inr (Or.inr (Or.inl (Int32.toInt_inj.mp (by rw [r, own_2]))))
  · exact Or.inr (Or.inr (Or.inr (Int32.toInt_inj.mp (by rw [r, own_3]))))
theorem own_n9 (x : Int32) : 1 ≤ ((x &&& 2147483647) % 999999999 + 1).toInt ∧ ((x &&& 2147483647) % 999999999 + 1).toInt ≤ 999999999 := by
  have e := c_mask x 2147483647 31 (by decide) (by decide)
  have q := (c_irem (x &&& 2147483647) 999999999 999999999 (by decide)).1 (by omega)
  have a := c_iadd ((x &&& 2147483647) % 999999999) 1
  have r := rng32 ((x &&& 2147483647) % 999999999 + 1)
  rw [own_1] at a
  omega
theorem own_oks {k n : Int32} (hk : k = 0 ∨ k = 1 ∨ k = 2 ∨ k = 3) (hn : 1 ≤ n.toInt ∧ n.toInt ≤ 999999999) : own_ok (own_at k n) (own_df k n) := by
  rcases hk with rfl | rfl | rfl | rfl
  · exact ⟨(by decide : 1 ≤ (1 : Int32).toInt ∧ (1 : Int32).toInt ≤ 999999999), hn, Or.inl rfl⟩
  · exact ⟨hn, (by decide : 1 ≤ (1 : Int32).toInt ∧ (1 : Int32).toInt ≤ 999999999), Or.inr (Or.inl rfl)⟩
  · exact ⟨(by decide : 1 ≤ (3 : Int32).toInt ∧ (3 : Int32).toInt ≤ 999999999), (by decide : 1 ≤ (2 : Int32).toInt ∧ (2 : Int32).toInt ≤ 999999999), Or.inr (Or.inr ⟨rfl, rfl⟩)⟩
  · exact ⟨(by decide : 1 ≤ (1 : Int32).toInt ∧ (1 : Int32).toInt ≤ 999999999), (by decide : 1 ≤ (1 : Int32).toInt ∧ (1 : Int32).toInt ≤ 999999999), Or.inl rfl⟩
theorem own_mul {x y : Int32} (hx : 1 ≤ x.toInt ∧ x.toInt ≤ 999999999) (hy : 1 ≤ y.toInt ∧ y.toInt ≤ 999999999) : (x.toInt64 * y.toInt64).toInt = x.toInt * y.toInt ∧ x.toInt ≤ x.toInt * y.toInt ∧ y.toInt ≤ x.toInt * y.toInt ∧ (x.toInt = 1 → x.toInt * y.toInt = y.toInt) ∧ (y.toInt = 1 → x.toInt * y.toInt = x.toInt) := by
  have k1 : x.toInt = 1 → x.toInt * y.toInt = y.toInt := fun q => by rw [q]; omega
  have k2 : y.toInt = 1 → x.toInt * y.toInt = x.toInt := fun q => by rw [q]; omega
  have a := c_lmul x.toInt64 y.toInt64
  rw [c_i2l, c_i2l] at a
  have r := rng64 (x.toInt64 * y.toInt64)
  have b1 : x.toInt * y.toInt ≤ 999999999 * 999999999 := Int.mul_le_mul hx.2 hy.2 (by omega) (by omega)
  have b2 : x.toInt * 1 ≤ x.toInt * y.toInt := Int.mul_le_mul_of_nonneg_left hy.1 (by omega)
  have b3 : 1 * y.toInt ≤ x.toInt * y.toInt := Int.mul_le_mul_of_nonneg_right hx.1 (by omega)
  generalize x.toInt * y.toInt = P at *
  omega
theorem own_sgl (x y : Int64) (a b : Int32) (h1 : x.toInt < y.toInt ↔ a.toInt < b.toInt) (h2 : x.toInt = y.toInt ↔ a.toInt = b.toInt) : own_sg (own_lc x y) = own_w a b := by
  unfold own_lc own_w
  by_cases g1 : x < y
  · rw [if_pos g1, if_pos (Int32.lt_iff_toInt_lt.mpr (h1.mp (Int64.lt_iff_toInt_lt.mp g1)))]; decide
  · have n1 : ¬ a < b := fun q => g1 (Int64.lt_iff_toInt_lt.mpr (h1.mpr (Int32.lt_iff_toInt_lt.mp q)))
    rw [if_neg g1, if_neg n1]
    by_cases g2 : x = y
    · have n2 : ¬ b < a := fun q => by
        have := h2.mp (by rw [g2]); rw [Int32.lt_iff_toInt_lt] at q; omega
      rw [if_pos g2, if_neg n2]; decide
    · have n2 : b < a := by
        rw [Int32.lt_iff_toInt_lt]; rw [Int32.lt_iff_toInt_lt] at n1
        have : a.toInt ≠ b.toInt := fun q => g2 (Int64.toInt_inj.mp (h2.mpr q))
        omega
      rw [if_neg g2, if_pos n2]; decide
theorem own_plI {k n : Int32} (hk : k = 0 ∨ k = 1 ∨ k = 2 ∨ k = 3) (hn : 1 ≤ n.toInt ∧ n.toInt ≤ 999999999) : (own_pl k n).toInt = if k = 0 then 1 - n.toInt else if k = 1 then (if n.toInt = 1 then 0 else n.toInt) else if k = 2 then 1 else 0 := by
  rcases hk with rfl | rfl | rfl | rfl
  · have a := c_isub 1 n
    have r := rng32 (1 - n)
    rw [own_1] at a
    show (1 - n).toInt = _
    simp only [if_pos]
    omega
  · show (if n = 1 then (0 : Int32) else n).toInt = _
    by_cases q : n = 1
    · rw [if_pos q, q]; decide
    · have : n.toInt ≠ 1 := fun w => q (Int32.toInt_inj.mp (by rw [w, own_1]))
      rw [if_neg q]; simp [this]
  · show (1 : Int32).toInt = (1 : Int); decide
  · show (0 : Int32).toInt = (0 : Int); decide
theorem own_law {a b n m : Int32} (ha : a = 0 ∨ a = 1 ∨ a = 2 ∨ a = 3) (hb : b = 0 ∨ b = 1 ∨ b = 2 ∨ b = 3) (hn : 1 ≤ n.toInt ∧ n.toInt ≤ 999999999) (hm : 1 ≤ m.toInt ∧ m.toInt ≤ 999999999) :
    own_sg (own_lc ((own_at a n).toInt64 * (own_df b m).toInt64) ((own_at b m).toInt64 * (own_df a n).toInt64)) = own_w (own_pl a n) (own_pl b m) := by
  have o1 := own_oks ha hn
  have o2 := own_oks hb hm
  have p1 := own_mul o1.1 o2.2.1
  have p2 := own_mul o2.1 o1.2.1
  have q1 := own_plI ha hn
  have q2 := own_plI hb hm
  refine own_sgl _ _ _ _ ?_ ?_
  all_goals
    rw [p1.1, p2.1, q1, q2]
    have p1' := p1.2; have p2' := p2.2
    clear p1 p2 o1 o2 q1 q2
    rcases ha with rfl | rfl | rfl | rfl <;> rcases hb with rfl | rfl | rfl | rfl <;> simp [own_at, own_df, own_1, own_2, own_3] at p1' p2' ⊢ <;> (try generalize n.toInt * m.toInt = P at *) <;> (try generalize m.toInt * n.toInt = P' at *) <;> (repeat' split) <;> omega
theorem d3_0 : decode jdk_30_method_1_code 0 = .ok (.aload_n 0, 1) := by decide +kernel
theorem d3_1 : decode jdk_30_method_1_code 1 = .ok (.invokespecial 1, 3) := by decide +kernel
theorem d3_4 : decode jdk_30_method_1_code 4 = .ok (.return_, 1) := by decide +kernel
theorem pd_0 : parseMethodDescriptor "()V" = some ⟨[], none⟩ := by decide +kernel
theorem pd_1 : parseMethodDescriptor "(II)V" = some ⟨[.int, .int], none⟩ := by decide +kernel
theorem pd_2 : parseMethodDescriptor "(JJ)I" = some ⟨[.long, .long], some .int⟩ := by decide +kernel
theorem pd_3 : parseMethodDescriptor "(II)I" = some ⟨[.int, .int], some .int⟩ := by decide +kernel
theorem pd_4 : parseMethodDescriptor "(I)I" = some ⟨[.int], some .int⟩ := by decide +kernel
theorem pd_5 : parseMethodDescriptor "(II)Lcom/example/salient/salient/combat/odds/Odds;" = some ⟨[.int, .int], some (.object "com/example/salient/salient/combat/odds/Odds")⟩ := by decide +kernel
theorem pd_6 : parseMethodDescriptor "(Lcom/example/salient/salient/combat/odds/Odds;)I" = some ⟨[(.object "com/example/salient/salient/combat/odds/Odds")], some .int⟩ := by decide +kernel
theorem ef_3 (m : MethodId) (x0 : Addr) : entryFrame m #[(.ref x0)] 1 = mkF m 0 #[.val (.ref x0)] [] := by first | (simp [entryFrame, mkF, argsToLocals, Value.category]; done) | rfl
theorem pn_Record : plainName "java/lang/Record" = true := by first | (simp [plainName, overriddenIn]; done) | decide +kernel
set_option maxRecDepth 65536 in
set_option maxHeartbeats 40000000 in
theorem rmR (l : Launch) (Z : State) (a0 : Array Value) (hw : ∀ d ∈ tables_1, d.before a0 Z = true) (a : Addr) (h0 : Heap) :
    Con l Z (⟨"java/lang/Record", "<init>", "()V"⟩ : MethodName) jdk_30_method_1_code 1 none [] ({ frames := 1, cells := 0, slots := 0, locals := 12 } : Room) #[(.ref a)] h0 (PQ none h0) := by
  refine Con.of (plainFor_of_name pn_Record) ?_
  intro p e s m below meth c s₁ hx hby hml hown hnm hret hlk hZ X0 e0
  refine Go.cast (ef_3 m a) ?_
  replace hown : s.vm.findClass "java/lang/Record" = some m.cls := hown
  refine Go.aloadN (pc' := 1) X0 hx hby d3_0 rfl rfl rfl ?_
  refine Go.initO (pc' := 4) (W := 0) X0 hx hby hZ hown (hw _ (List.mem_of_getElem? (i := 17) rfl)) (hw _ (List.mem_of_getElem? (i := 18) rfl)) (hw _ (List.mem_of_getElem? (i := 19) rfl)) e0 (by rw [hml]; rfl) d3_1 rfl (by decide) (Nat.le_of_eq rfl) (by decide) ?_
  intro T1 X2 e3
  exact Go.ret0 X2 hx hby hlk hret d3_4 (by decide) (by decide) ⟨rfl, rfl, e3⟩
theorem d2_0 : decode prog_12_method_1_code 0 = .ok (.aload_n 0, 1) := by decide +kernel
theorem d2_1 : decode prog_12_method_1_code 1 = .ok (.invokespecial 1, 3) := by decide +kernel
theorem d2_4 : decode prog_12_method_1_code 4 = .ok (.iload_n 1, 1) := by decide +kernel
theorem d2_5 : decode prog_12_method_1_code 5 = .ok (.iconst 1, 1) := by decide +kernel
theorem d2_6 : decode prog_12_method_1_code 6 = .ok (.if_icmp .lt 24, 3) := by decide +kernel
theorem d2_9 : decode prog_12_method_1_code 9 = .ok (.iload_n 1, 1) := by decide +kernel
theorem d2_10 : decode prog_12_method_1_code 10 = .ok (.ldc 9, 2) := by decide +kernel
theorem d2_12 : decode prog_12_method_1_code 12 = .ok (.if_icmp .gt 18, 3) := by decide +kernel
theorem d2_15 : decode prog_12_method_1_code 15 = .ok (.iload_n 2, 1) := by decide +kernel
theorem d2_16 : decode prog_12_method_1_code 16 = .ok (.iconst 1, 1) := by decide +kernel
theorem d2_17 : decode prog_12_method_1_code 17 = .ok (.if_icmp .lt 13, 3) := by decide +kernel
theorem d2_20 : decode prog_12_method_1_code 20 = .ok (.iload_n 2, 1) := by decide +kernel
theorem d2_21 : decode prog_12_method_1_code 21 = .ok (.ldc 9, 2) := by decide +kernel
theorem d2_23 : decode prog_12_method_1_code 23 = .ok (.if_icmp .gt 7, 3) := by decide +kernel
theorem d2_26 : decode prog_12_method_1_code 26 = .ok (.iconst 1, 1) := by decide +kernel
theorem d2_27 : decode prog_12_method_1_code 27 = .ok (.goto 4, 3) := by decide +kernel
theorem d2_30 : decode prog_12_method_1_code 30 = .ok (.iconst 0, 1) := by decide +kernel
theorem d2_31 : decode prog_12_method_1_code 31 = .ok (.istore_n 3, 1) := by decide +kernel
theorem d2_32 : decode prog_12_method_1_code 32 = .ok (.iload_n 1, 1) := by decide +kernel
theorem d2_33 : decode prog_12_method_1_code 33 = .ok (.iconst 1, 1) := by decide +kernel
theorem d2_34 : decode prog_12_method_1_code 34 = .ok (.if_icmp .eq 18, 3) := by decide +kernel
theorem d2_37 : decode prog_12_method_1_code 37 = .ok (.iload_n 2, 1) := by decide +kernel
theorem d2_38 : decode prog_12_method_1_code 38 = .ok (.iconst 1, 1) := by decide +kernel
theorem d2_39 : decode prog_12_method_1_code 39 = .ok (.if_icmp .eq 13, 3) := by decide +kernel
theorem d2_42 : decode prog_12_method_1_code 42 = .ok (.iload_n 1, 1) := by decide +kernel
theorem d2_43 : decode prog_12_method_1_code 43 = .ok (.iconst 3, 1) := by decide +kernel
theorem d2_44 : decode prog_12_method_1_code 44 = .ok (.if_icmp .ne 12, 3) := by decide +kernel
theorem d2_47 : decode prog_12_method_1_code 47 = .ok (.iload_n 2, 1) := by decide +kernel
theorem d2_48 : decode prog_12_method_1_code 48 = .ok (.iconst 2, 1) := by decide +kernel
theorem d2_49 : decode prog_12_method_1_code 49 = .ok (.if_icmp .ne 7, 3) := by decide +kernel
theorem d2_52 : decode prog_12_method_1_code 52 = .ok (.iconst 1, 1) := by decide +kernel
theorem d2_53 : decode prog_12_method_1_code 53 = .ok (.goto 4, 3) := by decide +kernel
theorem d2_56 : decode prog_12_method_1_code 56 = .ok (.iconst 0, 1) := by decide +kernel
theorem d2_57 : decode prog_12_method_1_code 57 = .ok (.istore 4, 2) := by decide +kernel
theorem d2_59 : decode prog_12_method_1_code 59 = .ok (.iload_n 3, 1) := by decide +kernel
theorem d2_60 : decode prog_12_method_1_code 60 = .ok (.ifCond .eq 8, 3) := by decide +kernel
theorem d2_63 : decode prog_12_method_1_code 63 = .ok (.iload 4, 2) := by decide +kernel
theorem d2_65 : decode prog_12_method_1_code 65 = .ok (.ifCond .ne 18, 3) := by decide +kernel
theorem d2_68 : decode prog_12_method_1_code 68 = .ok (.new 10, 3) := by decide +kernel
theorem d2_71 : decode prog_12_method_1_code 71 = .ok (.dup, 1) := by decide +kernel
theorem d2_72 : decode prog_12_method_1_code 72 = .ok (.iload_n 1, 1) := by decide +kernel
theorem d2_73 : decode prog_12_method_1_code 73 = .ok (.iload_n 2, 1) := by decide +kernel
theorem d2_74 : decode prog_12_method_1_code 74 = .ok (.invokedynamic 12, 5) := by decide +kernel
theorem d2_79 : decode prog_12_method_1_code 79 = .ok (.invokespecial 16, 3) := by decide +kernel
theorem d2_82 : decode prog_12_method_1_code 82 = .ok (.athrow, 1) := by decide +kernel
theorem d2_83 : decode prog_12_method_1_code 83 = .ok (.aload_n 0, 1) := by decide +kernel
theorem d2_84 : decode prog_12_method_1_code 84 = .ok (.iload_n 1, 1) := by decide +kernel
theorem d2_85 : decode prog_12_method_1_code 85 = .ok (.putfield 19, 3) := by decide +kernel
theorem d2_88 : decode prog_12_method_1_code 88 = .ok (.aload_n 0, 1) := by decide +kernel
theorem d2_89 : decode prog_12_method_1_code 89 = .ok (.iload_n 2, 1) := by decide +kernel
theorem d2_90 : decode prog_12_method_1_code 90 = .ok (.putfield 23, 3) := by decide +kernel
theorem d2_93 : decode prog_12_method_1_code 93 = .ok (.return_, 1) := by decide +kernel
theorem ef_2 (m : MethodId) (x0 : Addr) (x1 : Int32) (x2 : Int32) : entryFrame m #[(.ref x0), (.int x1), (.int x2)] 5 = mkF m 0 #[.val (.ref x0), .val (.int x1), .val (.int x2), .unset, .unset] [] := by first | (simp [entryFrame, mkF, argsToLocals, Value.category]; done) | rfl
theorem pn_Odds : plainName "com/example/salient/salient/combat/odds/Odds" = true := by first | (simp [plainName, overriddenIn]; done) | decide +kernel
set_option maxRecDepth 65536 in
set_option maxHeartbeats 40000000 in
theorem rmO (l : Launch) (Z : State) (a0 : Array Value) (hw : ∀ d ∈ tables_1, d.before a0 Z = true) (a : Addr) (x1 : Int32) (x2 : Int32) (h0 : Heap) (n0 : Nat) (ga : n0 ≤ a) (Z0 : n0 ≤ h0.size) (E0 : Exa Z h0 a "com/example/salient/salient/combat/odds/Odds") (F1 : Fld Z h0 a "com/example/salient/salient/combat/odds/Odds" "attack" "I" (.int 0)) (F2 : Fld Z h0 a "com/example/salient/salient/combat/odds/Odds" "defense" "I" (.int 0)) (ok : own_ok x1 x2) :
    Con l Z (⟨"com/example/salient/salient/combat/odds/Odds", "<init>", "(II)V"⟩ : MethodName) prog_12_method_1_code 5 none [] ({ frames := 2, cells := 0, slots := 0, locals := 24 } : Room) #[(.ref a), (.int x1), (.int x2)] h0 (fun v h L => v = none ∧ Fr n0 L ∧ Keep h0 h [a] ∧ Exa Z h a "com/example/salient/salient/combat/odds/Odds" ∧ Fld Z h a "com/example/salient/salient/combat/odds/Odds" "attack" "I" (.int x1) ∧ Fld Z h a "com/example/salient/salient/combat/odds/Odds" "defense" "I" (.int x2)) := by
  refine Con.of (plainFor_of_name pn_Odds) ?_
  intro p e s m below meth c s₁ hx hby hml hown hnm hret hlk hZ X0 e0
  refine Go.cast (ef_2 m a x1 x2) ?_
  replace hown : s.vm.findClass "com/example/salient/salient/combat/odds/Odds" = some m.cls := hown
  obtain ⟨ok1, ok2, ok3⟩ := ok
  refine Go.aloadN (pc' := 1) X0 hx hby d2_0 rfl rfl rfl ?_
  refine Go.callI (pc' := 4) (a := a) (W := 0) (argsL := []) (rest := []) X0 hx hby rfl hZ hown (hw _ (List.mem_of_getElem? (i := 12) rfl)) (hw _ (List.mem_of_getElem? (i := 13) rfl)) (hw _ (List.mem_of_getElem? (i := 15) rfl)) (hw _ (List.mem_of_getElem? (i := 16) rfl)) (by decide) (rmR l Z a0 hw a h0) e0 (by decide) (by decide) (by rw [hml]; rfl) pd_0 rfl rfl rfl (Nat.le_of_eq rfl) d2_1 rfl (by decide) (by decide) ?_
  rintro r1 T2 L3 X4 ⟨rfl, rfl, e1⟩
  rw [List.append_nil] at X4
  show Go p e below _ (T2.setTop (mkF m 4 #[.val (.ref a), .val (.int x1), .val (.int x2), .unset, .unset] []))
  refine Go.iloadN (pc' := 5) X4 hx hby d2_4 rfl rfl ?_
  refine Go.iconst (pc' := 6) X4 hx hby d2_5 rfl (v := (1 : Int32)) (by decide) ?_
  refine Go.icmpN (pc' := 9) X4 hx hby d2_6 rfl (show ¬ (x1 < (1 : Int32)) from by rw [Int32.lt_iff_toInt_lt]; simp only [own_1, own_9]; omega) ?_
  refine Go.iloadN (pc' := 10) X4 hx hby d2_9 rfl rfl ?_
  refine Go.ldcI (pc' := 12) X4 hx hby d2_10 rfl hown (mvT hZ (hw _ (List.mem_of_getElem? (i := 20) rfl))) ?_
  refine Go.icmpN (pc' := 15) X4 hx hby d2_12 rfl (show ¬ ((999999999 : Int32) < x1) from by rw [Int32.lt_iff_toInt_lt]; simp only [own_1, own_9]; omega) ?_
  refine Go.iloadN (pc' := 16) X4 hx hby d2_15 rfl rfl ?_
  refine Go.iconst (pc' := 17) X4 hx hby d2_16 rfl (v := (1 : Int32)) (by decide) ?_
  refine Go.icmpN (pc' := 20) X4 hx hby d2_17 rfl (show ¬ (x2 < (1 : Int32)) from by rw [Int32.lt_iff_toInt_lt]; simp only [own_1, own_9]; omega) ?_
  refine Go.iloadN (pc' := 21) X4 hx hby d2_20 rfl rfl ?_
  refine Go.ldcI (pc' := 23) X4 hx hby d2_21 rfl hown (mvT hZ (hw _ (List.mem_of_getElem? (i := 20) rfl))) ?_
  refine Go.icmpN (pc' := 26) X4 hx hby d2_23 rfl (show ¬ ((999999999 : Int32) < x2) from by rw [Int32.lt_iff_toInt_lt]; simp only [own_1, own_9]; omega) ?_
  refine Go.iconst (pc' := 27) X4 hx hby d2_26 rfl (v := (1 : Int32)) (by decide) ?_
  refine Go.goto (pc' := 31) X4 hx hby d2_27 (by decide) (by decide) ?_
  refine Go.istoreN (Ls' := #[.val (.ref a), .val (.int x1), .val (.int x2), .val (.int (1 : Int32)), .unset]) (pc' := 32) X4 hx hby d2_31 rfl rfl ?_
  refine Go.iloadN (pc' := 33) X4 hx hby d2_32 rfl rfl ?_
  refine Go.iconst (pc' := 34) X4 hx hby d2_33 rfl (v := (1 : Int32)) (by decide) ?_
  refine Go.cut (F := fun (b6 : Int32) => T2.setTop (mkF m 57 #[.val (.ref a), .val (.int x1), .val (.int x2), .val (.int (1 : Int32)), .unset] [(.int b6)])) (x := (1 : Int32)) ?_ (fun j5 => ?_)
  ·
    show Go p e below _ (T2.setTop (mkF m 57 #[.val (.ref a), .val (.int x1), .val (.int x2), .val (.int (1 : Int32)), .unset] [(.int (1 : Int32))]))
    refine Go.istore (Ls' := #[.val (.ref a), .val (.int x1), .val (.int x2), .val (.int (1 : Int32)), .val (.int (1 : Int32))]) (pc' := 59) X4 hx hby d2_57 rfl rfl ?_
    refine Go.iloadN (pc' := 60) X4 hx hby d2_59 rfl rfl ?_
    refine Go.ifN (pc' := 63) X4 hx hby d2_60 rfl (show ¬ ((1 : Int32) = 0) from by decide) ?_
    refine Go.iload (pc' := 65) X4 hx hby d2_63 rfl rfl ?_
    refine Go.ifY (pc' := 83) X4 hx hby d2_65 (by decide) (by decide) (show (1 : Int32) ≠ 0 from by decide) ?_
    refine Go.aloadN (pc' := 84) X4 hx hby d2_83 rfl rfl rfl ?_
    refine Go.iloadN (pc' := 85) X4 hx hby d2_84 rfl rfl ?_
    refine Go.putF (pc' := 88) (ty := .int) X4 hx hby hZ hown (hw _ (List.mem_of_getElem? (i := 21) rfl)) Via.refl e1 F1 E0 (Or.inr ⟨(hw _ (List.mem_of_getElem? (i := 22) rfl)), rfl, hnm⟩) (hw _ (List.mem_of_getElem? (i := 7) rfl)) (by decide) rfl rfl d2_85 rfl ?_
    intro T7 h8 X9 e10 W11
    have f12 : Exa Z h8 a "com/example/salient/salient/combat/odds/Odds" := Exa.wr W11 E0
    have f13 : Fld Z h8 a "com/example/salient/salient/combat/odds/Odds" "defense" "I" (.int 0) := Fld.other W11 F2 (Or.inr (slot_ne (t := .int) (t' := .int) (Or.inr (hw _ (List.mem_of_getElem? (i := 24) rfl))) (Or.inr (hw _ (List.mem_of_getElem? (i := 22) rfl))) (by decide) (by decide) (by decide)))
    have z14 : n0 ≤ h8.size := by rw [Wr.size W11]; exact Z0
    have f15 : Fld Z h8 a "com/example/salient/salient/combat/odds/Odds" "attack" "I" (.int x1) := Fld.same W11 F1
    have N16 : Fr n0 _ := Fr.snoc X9 (Fr.nil _) ga
    show Go p e below _ (T7.setTop (mkF m 88 #[.val (.ref a), .val (.int x1), .val (.int x2), .val (.int (1 : Int32)), .val (.int (1 : Int32))] []))
    refine Go.aloadN (pc' := 89) X9 hx hby d2_88 rfl rfl rfl ?_
    refine Go.iloadN (pc' := 90) X9 hx hby d2_89 rfl rfl ?_
    refine Go.putF (pc' := 93) (ty := .int) X9 hx hby hZ hown (hw _ (List.mem_of_getElem? (i := 23) rfl)) Via.refl e10 f13 f12 (Or.inr ⟨(hw _ (List.mem_of_getElem? (i := 24) rfl)), rfl, hnm⟩) (hw _ (List.mem_of_getElem? (i := 7) rfl)) (by decide) rfl rfl d2_90 rfl ?_
    intro T17 h18 X19 e20 W21
    have f22 : Exa Z h18 a "com/example/salient/salient/combat/odds/Odds" := Exa.wr W21 f12
    have f23 : Fld Z h18 a "com/example/salient/salient/combat/odds/Odds" "attack" "I" (.int x1) := Fld.other W21 f15 (Or.inr (slot_ne (t := .int) (t' := .int) (Or.inr (hw _ (List.mem_of_getElem? (i := 22) rfl))) (Or.inr (hw _ (List.mem_of_getElem? (i := 24) rfl))) (by decide) (by decide) (by decide)))
    have z24 : n0 ≤ h18.size := by rw [Wr.size W21]; exact z14
    have f25 : Fld Z h18 a "com/example/salient/salient/combat/odds/Odds" "defense" "I" (.int x2) := Fld.same W21 f13
    have N26 : Fr n0 _ := Fr.snoc X19 N16 ga
    show Go p e below _ (T17.setTop (mkF m 93 #[.val (.ref a), .val (.int x1), .val (.int x2), .val (.int (1 : Int32)), .val (.int (1 : Int32))] []))
    exact Go.ret0 X19 hx hby hlk hret d2_93 (by decide) (by decide) ⟨rfl, N26, by rw [e20]; exact ((Keep.refl h0 _).wr W11 (Or.inl (List.mem_singleton.mpr rfl))).wr W21 (Or.inl (List.mem_singleton.mpr rfl)), by rw [e20]; exact f22, by rw [e20]; exact f23, by rw [e20]; exact f25⟩
  ·
    refine Go.icmp (pc' := 52) (pn := 37) X4 hx hby d2_34 (by decide) (by decide) rfl (fun (c27 : x1 = (1 : Int32)) => ?_) (fun (c27 : ¬ (x1 = (1 : Int32))) => ?_)
    ·
      refine Go.iconst (pc' := 53) X4 hx hby d2_52 rfl (v := (1 : Int32)) (by decide) ?_
      refine Go.goto (pc' := 57) X4 hx hby d2_53 (by decide) (by decide) ?_
      exact j5 _ (by rfl)
    ·
      refine Go.iloadN (pc' := 38) X4 hx hby d2_37 rfl rfl ?_
      refine Go.iconst (pc' := 39) X4 hx hby d2_38 rfl (v := (1 : Int32)) (by decide) ?_
      refine Go.icmp (pc' := 52) (pn := 42) X4 hx hby d2_39 (by decide) (by decide) rfl (fun (c28 : x2 = (1 : Int32)) => ?_) (fun (c28 : ¬ (x2 = (1 : Int32))) => ?_)
      ·
        refine Go.iconst (pc' := 53) X4 hx hby d2_52 rfl (v := (1 : Int32)) (by decide) ?_
        refine Go.goto (pc' := 57) X4 hx hby d2_53 (by decide) (by decide) ?_
        exact j5 _ (by rfl)
      ·
        refine Go.iloadN (pc' := 43) X4 hx hby d2_42 rfl rfl ?_
        refine Go.iconst (pc' := 44) X4 hx hby d2_43 rfl (v := (3 : Int32)) (by decide) ?_
        refine Go.icmp (pc' := 56) (pn := 47) X4 hx hby d2_44 (by decide) (by decide) rfl (fun (c29 : x1 ≠ (3 : Int32)) => ?_) (fun (c29 : ¬ (x1 ≠ (3 : Int32))) => ?_)
        ·
          exfalso
          rcases ok3 with q | q | ⟨q, q'⟩ <;> first | (exact absurd q (by assumption)) | (exact absurd q' (by assumption))
        ·
          refine Go.iloadN (pc' := 48) X4 hx hby d2_47 rfl rfl ?_
          refine Go.iconst (pc' := 49) X4 hx hby d2_48 rfl (v := (2 : Int32)) (by decide) ?_
          refine Go.icmp (pc' := 56) (pn := 52) X4 hx hby d2_49 (by decide) (by decide) rfl (fun (c30 : x2 ≠ (2 : Int32)) => ?_) (fun (c30 : ¬ (x2 ≠ (2 : Int32))) => ?_)
          ·
            exfalso
            rcases ok3 with q | q | ⟨q, q'⟩ <;> first | (exact absurd q (by assumption)) | (exact absurd q' (by assumption))
          ·
            refine Go.iconst (pc' := 53) X4 hx hby d2_52 rfl (v := (1 : Int32)) (by decide) ?_
            refine Go.goto (pc' := 57) X4 hx hby d2_53 (by decide) (by decide) ?_
            exact j5 _ (by rfl)
theorem d1_0 : decode method_2_code 0 = .ok (.iload_n 0, 1) := by decide +kernel
theorem d1_1 : decode method_2_code 1 = .ok (.ifCond .ne 16, 3) := by decide +kernel
theorem d1_4 : decode method_2_code 4 = .ok (.new 7, 3) := by decide +kernel
theorem d1_7 : decode method_2_code 7 = .ok (.dup, 1) := by decide +kernel
theorem d1_8 : decode method_2_code 8 = .ok (.iconst 1, 1) := by decide +kernel
theorem d1_9 : decode method_2_code 9 = .ok (.iload_n 1, 1) := by decide +kernel
theorem d1_10 : decode method_2_code 10 = .ok (.invokespecial 9, 3) := by decide +kernel
theorem d1_13 : decode method_2_code 13 = .ok (.astore_n 2, 1) := by decide +kernel
theorem d1_14 : decode method_2_code 14 = .ok (.goto 49, 3) := by decide +kernel
theorem d1_17 : decode method_2_code 17 = .ok (.iload_n 0, 1) := by decide +kernel
theorem d1_18 : decode method_2_code 18 = .ok (.iconst 1, 1) := by decide +kernel
theorem d1_19 : decode method_2_code 19 = .ok (.if_icmp .ne 16, 3) := by decide +kernel
theorem d1_22 : decode method_2_code 22 = .ok (.new 7, 3) := by decide +kernel
theorem d1_25 : decode method_2_code 25 = .ok (.dup, 1) := by decide +kernel
theorem d1_26 : decode method_2_code 26 = .ok (.iload_n 1, 1) := by decide +kernel
theorem d1_27 : decode method_2_code 27 = .ok (.iconst 1, 1) := by decide +kernel
theorem d1_28 : decode method_2_code 28 = .ok (.invokespecial 9, 3) := by decide +kernel
theorem d1_31 : decode method_2_code 31 = .ok (.astore_n 2, 1) := by decide +kernel
theorem d1_32 : decode method_2_code 32 = .ok (.goto 31, 3) := by decide +kernel
theorem d1_35 : decode method_2_code 35 = .ok (.iload_n 0, 1) := by decide +kernel
theorem d1_36 : decode method_2_code 36 = .ok (.iconst 2, 1) := by decide +kernel
theorem d1_37 : decode method_2_code 37 = .ok (.if_icmp .ne 16, 3) := by decide +kernel
theorem d1_40 : decode method_2_code 40 = .ok (.new 7, 3) := by decide +kernel
theorem d1_43 : decode method_2_code 43 = .ok (.dup, 1) := by decide +kernel
theorem d1_44 : decode method_2_code 44 = .ok (.iconst 3, 1) := by decide +kernel
theorem d1_45 : decode method_2_code 45 = .ok (.iconst 2, 1) := by decide +kernel
theorem d1_46 : decode method_2_code 46 = .ok (.invokespecial 9, 3) := by decide +kernel
theorem d1_49 : decode method_2_code 49 = .ok (.astore_n 2, 1) := by decide +kernel
theorem d1_50 : decode method_2_code 50 = .ok (.goto 13, 3) := by decide +kernel
theorem d1_53 : decode method_2_code 53 = .ok (.new 7, 3) := by decide +kernel
theorem d1_56 : decode method_2_code 56 = .ok (.dup, 1) := by decide +kernel
theorem d1_57 : decode method_2_code 57 = .ok (.iconst 1, 1) := by decide +kernel
theorem d1_58 : decode method_2_code 58 = .ok (.iconst 1, 1) := by decide +kernel
theorem d1_59 : decode method_2_code 59 = .ok (.invokespecial 9, 3) := by decide +kernel
theorem d1_62 : decode method_2_code 62 = .ok (.astore_n 2, 1) := by decide +kernel
theorem d1_63 : decode method_2_code 63 = .ok (.aload_n 2, 1) := by decide +kernel
theorem d1_64 : decode method_2_code 64 = .ok (.areturn, 1) := by decide +kernel
theorem ef_1 (m : MethodId) (x0 : Int32) (x1 : Int32) : entryFrame m #[(.int x0), (.int x1)] 3 = mkF m 0 #[.val (.int x0), .val (.int x1), .unset] [] := by first | (simp [entryFrame, mkF, argsToLocals, Value.category]; done) | rfl
theorem pn_OddsCompareToPinLaw : plainName "com/example/salient/salient/combat/odds/OddsCompareToPinLaw" = true := by first | (simp [plainName, overriddenIn]; done) | decide +kernel
set_option maxRecDepth 65536 in
set_option maxHeartbeats 40000000 in
theorem rmM (l : Launch) (Z : State) (a0 : Array Value) (hw : ∀ d ∈ tables_1, d.before a0 Z = true) (x0 : Int32) (x1 : Int32) (h0 : Heap) (n0 : Nat) (Z0 : n0 ≤ h0.size) (hk : x0 = 0 ∨ x0 = 1 ∨ x0 = 2 ∨ x0 = 3) (hn : 1 ≤ x1.toInt ∧ x1.toInt ≤ 999999999) :
    Con l Z (⟨"com/example/salient/salient/combat/odds/OddsCompareToPinLaw", "make", "(II)Lcom/example/salient/salient/combat/odds/Odds;"⟩ : MethodName) method_2_code 3 (some (.object "com/example/salient/salient/combat/odds/Odds")) [] ({ frames := 3, cells := 1, slots := 2, locals := 41 } : Room) #[(.int x0), (.int x1)] h0 (fun v h L => ∃ b, v = some (.ref b) ∧ h0.size ≤ b ∧ Fr n0 L ∧ Keep h0 h [] ∧ Exa Z h b "com/example/salient/salient/combat/odds/Odds" ∧ Fld Z h b "com/example/salient/salient/combat/odds/Odds" "attack" "I" (.int (own_at x0 x1)) ∧ Fld Z h b "com/example/salient/salient/combat/odds/Odds" "defense" "I" (.int (own_df x0 x1))) := by
  refine Con.of (plainFor_of_name pn_OddsCompareToPinLaw) ?_
  intro p e s m below meth c s₁ hx hby hml hown hnm hret hlk hZ X0 e0
  refine Go.cast (ef_1 m x0 x1) ?_
  replace hown : s.vm.findClass "com/example/salient/salient/combat/odds/OddsCompareToPinLaw" = some m.cls := hown
  refine Go.iloadN (pc' := 1) X0 hx hby d1_0 rfl rfl ?_
  refine Go.if_ (pc' := 17) (pn := 4) X0 hx hby d1_1 (by decide) (by decide) rfl (fun (c1 : x0 ≠ 0) => ?_) (fun (c1 : ¬ (x0 ≠ 0)) => ?_)
  ·
    refine Go.iloadN (pc' := 18) X0 hx hby d1_17 rfl rfl ?_
    refine Go.iconst (pc' := 19) X0 hx hby d1_18 rfl (v := (1 : Int32)) (by decide) ?_
    refine Go.icmp (pc' := 35) (pn := 22) X0 hx hby d1_19 (by decide) (by decide) rfl (fun (c2 : x0 ≠ (1 : Int32)) => ?_) (fun (c2 : ¬ (x0 ≠ (1 : Int32))) => ?_)
    ·
      refine Go.iloadN (pc' := 36) X0 hx hby d1_35 rfl rfl ?_
      refine Go.iconst (pc' := 37) X0 hx hby d1_36 rfl (v := (2 : Int32)) (by decide) ?_
      refine Go.icmp (pc' := 53) (pn := 40) X0 hx hby d1_37 (by decide) (by decide) rfl (fun (c3 : x0 ≠ (2 : Int32)) => ?_) (fun (c3 : ¬ (x0 ≠ (2 : Int32))) => ?_)
      ·
        refine Go.new_ (pc' := 56) X0 hx hby hZ hown (hw _ (List.mem_of_getElem? (i := 6) rfl)) (hw _ (List.mem_of_getElem? (i := 7) rfl)) (hw _ (List.mem_of_getElem? (i := 8) rfl)) e0 d1_53 rfl (by decide) (by decide) ?_
        intro b4 T5 h6 g7 X8 e9 E10 A11 D12
        have g13 : n0 ≤ b4 := by rw [g7]; exact Z0
        have z14 : n0 ≤ h6.size := Nat.le_trans Z0 E10.1
        have f15 : Exa Z h6 b4 "com/example/salient/salient/combat/odds/Odds" := A11
        have f16 : Fld Z h6 b4 "com/example/salient/salient/combat/odds/Odds" "attack" "I" (.int 0) := D12 (Or.inr (hw _ (List.mem_of_getElem? (i := 22) rfl))) (ty := .int) (by decide)
        have f17 : Fld Z h6 b4 "com/example/salient/salient/combat/odds/Odds" "defense" "I" (.int 0) := D12 (Or.inr (hw _ (List.mem_of_getElem? (i := 24) rfl))) (ty := .int) (by decide)
        show Go p e below _ (T5.setTop (mkF m 56 #[.val (.int x0), .val (.int x1), .unset] [(.ref b4)]))
        refine Go.dup (pc' := 57) X8 hx hby d1_56 rfl rfl ?_
        refine Go.iconst (pc' := 58) X8 hx hby d1_57 rfl (v := (1 : Int32)) (by decide) ?_
        refine Go.iconst (pc' := 59) X8 hx hby d1_58 rfl (v := (1 : Int32)) (by decide) ?_
        have qA : own_at x0 x1 = (1 : Int32) := by simp [own_at, c1, c2, c3]
        have qD : own_df x0 x1 = (1 : Int32) := by simp [own_df, c1, c2, c3]
        have qo := own_oks hk hn
        rw [qA, qD] at qo
        refine Go.callI (pc' := 62) (a := b4) (W := 1) (argsL := [(.int (1 : Int32)), (.int (1 : Int32))]) (rest := [(.ref b4)]) X8 hx hby rfl hZ hown (hw _ (List.mem_of_getElem? (i := 9) rfl)) (hw _ (List.mem_of_getElem? (i := 10) rfl)) (hw _ (List.mem_of_getElem? (i := 8) rfl)) (hw _ (List.mem_of_getElem? (i := 11) rfl)) (by decide) (rmO l Z a0 hw b4 (1 : Int32) (1 : Int32) h6 n0 g13 z14 f15 f16 f17 qo) e9 (by decide) (by decide) (by rw [hml]; rfl) pd_1 rfl rfl rfl (Nat.le_of_eq rfl) d1_59 rfl (by decide) (by decide) ?_
        rintro r18 T19 L20 X21 ⟨rfl, N9, K9, E9, F9, G9⟩
        show Go p e below _ (T19.setTop (mkF m 62 #[.val (.int x0), .val (.int x1), .unset] [(.ref b4)]))
        refine Go.astoreN (Ls' := #[.val (.int x0), .val (.int x1), .val (.ref b4)]) (pc' := 63) X21 hx hby d1_62 rfl rfl rfl ?_
        refine Go.aloadN (pc' := 64) X21 hx hby d1_63 rfl rfl rfl ?_
        exact Go.retA X21 hx hby hlk hret rfl rfl rfl d1_64 (by decide) (by decide) ⟨b4, rfl, by rw [g7]; exact Nat.le_refl _, Fr.app (Fr.nil _) N9, ((Keep.refl h0 []).ext E10).trans K9 (allS (Or.inr (by rw [g7]; exact Nat.le_refl _)) all0), E9, by rw [qA]; exact F9, by rw [qD]; exact G9⟩
      ·
        refine Go.new_ (pc' := 43) X0 hx hby hZ hown (hw _ (List.mem_of_getElem? (i := 6) rfl)) (hw _ (List.mem_of_getElem? (i := 7) rfl)) (hw _ (List.mem_of_getElem? (i := 8) rfl)) e0 d1_40 rfl (by decide) (by decide) ?_
        intro b22 T23 h24 g25 X26 e27 E28 A29 D30
        have g31 : n0 ≤ b22 := by rw [g25]; exact Z0
        have z32 : n0 ≤ h24.size := Nat.le_trans Z0 E28.1
        have f33 : Exa Z h24 b22 "com/example/salient/salient/combat/odds/Odds" := A29
        have f34 : Fld Z h24 b22 "com/example/salient/salient/combat/odds/Odds" "attack" "I" (.int 0) := D30 (Or.inr (hw _ (List.mem_of_getElem? (i := 22) rfl))) (ty := .int) (by decide)
        have f35 : Fld Z h24 b22 "com/example/salient/salient/combat/odds/Odds" "defense" "I" (.int 0) := D30 (Or.inr (hw _ (List.mem_of_getElem? (i := 24) rfl))) (ty := .int) (by decide)
        show Go p e below _ (T23.setTop (mkF m 43 #[.val (.int x0), .val (.int x1), .unset] [(.ref b22)]))
        refine Go.dup (pc' := 44) X26 hx hby d1_43 rfl rfl ?_
        refine Go.iconst (pc' := 45) X26 hx hby d1_44 rfl (v := (3 : Int32)) (by decide) ?_
        refine Go.iconst (pc' := 46) X26 hx hby d1_45 rfl (v := (2 : Int32)) (by decide) ?_
        have qA : own_at x0 x1 = (3 : Int32) := by simp [own_at, c1, c2, c3]
        have qD : own_df x0 x1 = (2 : Int32) := by simp [own_df, c1, c2, c3]
        have qo := own_oks hk hn
        rw [qA, qD] at qo
        refine Go.callI (pc' := 49) (a := b22) (W := 1) (argsL := [(.int (3 : Int32)), (.int (2 : Int32))]) (rest := [(.ref b22)]) X26 hx hby rfl hZ hown (hw _ (List.mem_of_getElem? (i := 9) rfl)) (hw _ (List.mem_of_getElem? (i := 10) rfl)) (hw _ (List.mem_of_getElem? (i := 8) rfl)) (hw _ (List.mem_of_getElem? (i := 11) rfl)) (by decide) (rmO l Z a0 hw b22 (3 : Int32) (2 : Int32) h24 n0 g31 z32 f33 f34 f35 qo) e27 (by decide) (by decide) (by rw [hml]; rfl) pd_1 rfl rfl rfl (Nat.le_of_eq rfl) d1_46 rfl (by decide) (by decide) ?_
        rintro r36 T37 L38 X39 ⟨rfl, N9, K9, E9, F9, G9⟩
        show Go p e below _ (T37.setTop (mkF m 49 #[.val (.int x0), .val (.int x1), .unset] [(.ref b22)]))
        refine Go.astoreN (Ls' := #[.val (.int x0), .val (.int x1), .val (.ref b22)]) (pc' := 50) X39 hx hby d1_49 rfl rfl rfl ?_
        refine Go.goto (pc' := 63) X39 hx hby d1_50 (by decide) (by decide) ?_
        refine Go.aloadN (pc' := 64) X39 hx hby d1_63 rfl rfl rfl ?_
        exact Go.retA X39 hx hby hlk hret rfl rfl rfl d1_64 (by decide) (by decide) ⟨b22, rfl, by rw [g25]; exact Nat.le_refl _, Fr.app (Fr.nil _) N9, ((Keep.refl h0 []).ext E28).trans K9 (allS (Or.inr (by rw [g25]; exact Nat.le_refl _)) all0), E9, by rw [qA]; exact F9, by rw [qD]; exact G9⟩
    ·
      refine Go.new_ (pc' := 25) X0 hx hby hZ hown (hw _ (List.mem_of_getElem? (i := 6) rfl)) (hw _ (List.mem_of_getElem? (i := 7) rfl)) (hw _ (List.mem_of_getElem? (i := 8) rfl)) e0 d1_22 rfl (by decide) (by decide) ?_
      intro b40 T41 h42 g43 X44 e45 E46 A47 D48
      have g49 : n0 ≤ b40 := by rw [g43]; exact Z0
      have z50 : n0 ≤ h42.size := Nat.le_trans Z0 E46.1
      have f51 : Exa Z h42 b40 "com/example/salient/salient/combat/odds/Odds" := A47
      have f52 : Fld Z h42 b40 "com/example/salient/salient/combat/odds/Odds" "attack" "I" (.int 0) := D48 (Or.inr (hw _ (List.mem_of_getElem? (i := 22) rfl))) (ty := .int) (by decide)
      have f53 : Fld Z h42 b40 "com/example/salient/salient/combat/odds/Odds" "defense" "I" (.int 0) := D48 (Or.inr (hw _ (List.mem_of_getElem? (i := 24) rfl))) (ty := .int) (by decide)
      show Go p e below _ (T41.setTop (mkF m 25 #[.val (.int x0), .val (.int x1), .unset] [(.ref b40)]))
      refine Go.dup (pc' := 26) X44 hx hby d1_25 rfl rfl ?_
      refine Go.iloadN (pc' := 27) X44 hx hby d1_26 rfl rfl ?_
      refine Go.iconst (pc' := 28) X44 hx hby d1_27 rfl (v := (1 : Int32)) (by decide) ?_
      have qA : own_at x0 x1 = x1 := by simp [own_at, c1, c2]
      have qD : own_df x0 x1 = (1 : Int32) := by simp [own_df, c1, c2]
      have qo := own_oks hk hn
      rw [qA, qD] at qo
      refine Go.callI (pc' := 31) (a := b40) (W := 1) (argsL := [(.int x1), (.int (1 : Int32))]) (rest := [(.ref b40)]) X44 hx hby rfl hZ hown (hw _ (List.mem_of_getElem? (i := 9) rfl)) (hw _ (List.mem_of_getElem? (i := 10) rfl)) (hw _ (List.mem_of_getElem? (i := 8) rfl)) (hw _ (List.mem_of_getElem? (i := 11) rfl)) (by decide) (rmO l Z a0 hw b40 x1 (1 : Int32) h42 n0 g49 z50 f51 f52 f53 qo) e45 (by decide) (by decide) (by rw [hml]; rfl) pd_1 rfl rfl rfl (Nat.le_of_eq rfl) d1_28 rfl (by decide) (by decide) ?_
      rintro r54 T55 L56 X57 ⟨rfl, N9, K9, E9, F9, G9⟩
      show Go p e below _ (T55.setTop (mkF m 31 #[.val (.int x0), .val (.int x1), .unset] [(.ref b40)]))
      refine Go.astoreN (Ls' := #[.val (.int x0), .val (.int x1), .val (.ref b40)]) (pc' := 32) X57 hx hby d1_31 rfl rfl rfl ?_
      refine Go.goto (pc' := 63) X57 hx hby d1_32 (by decide) (by decide) ?_
      refine Go.aloadN (pc' := 64) X57 hx hby d1_63 rfl rfl rfl ?_
      exact Go.retA X57 hx hby hlk hret rfl rfl rfl d1_64 (by decide) (by decide) ⟨b40, rfl, by rw [g43]; exact Nat.le_refl _, Fr.app (Fr.nil _) N9, ((Keep.refl h0 []).ext E46).trans K9 (allS (Or.inr (by rw [g43]; exact Nat.le_refl _)) all0), E9, by rw [qA]; exact F9, by rw [qD]; exact G9⟩
  ·
    refine Go.new_ (pc' := 7) X0 hx hby hZ hown (hw _ (List.mem_of_getElem? (i := 6) rfl)) (hw _ (List.mem_of_getElem? (i := 7) rfl)) (hw _ (List.mem_of_getElem? (i := 8) rfl)) e0 d1_4 rfl (by decide) (by decide) ?_
    intro b58 T59 h60 g61 X62 e63 E64 A65 D66
    have g67 : n0 ≤ b58 := by rw [g61]; exact Z0
    have z68 : n0 ≤ h60.size := Nat.le_trans Z0 E64.1
    have f69 : Exa Z h60 b58 "com/example/salient/salient/combat/odds/Odds" := A65
    have f70 : Fld Z h60 b58 "com/example/salient/salient/combat/odds/Odds" "attack" "I" (.int 0) := D66 (Or.inr (hw _ (List.mem_of_getElem? (i := 22) rfl))) (ty := .int) (by decide)
    have f71 : Fld Z h60 b58 "com/example/salient/salient/combat/odds/Odds" "defense" "I" (.int 0) := D66 (Or.inr (hw _ (List.mem_of_getElem? (i := 24) rfl))) (ty := .int) (by decide)
    show Go p e below _ (T59.setTop (mkF m 7 #[.val (.int x0), .val (.int x1), .unset] [(.ref b58)]))
    refine Go.dup (pc' := 8) X62 hx hby d1_7 rfl rfl ?_
    refine Go.iconst (pc' := 9) X62 hx hby d1_8 rfl (v := (1 : Int32)) (by decide) ?_
    refine Go.iloadN (pc' := 10) X62 hx hby d1_9 rfl rfl ?_
    have qA : own_at x0 x1 = (1 : Int32) := by simp [own_at, c1]
    have qD : own_df x0 x1 = x1 := by simp [own_df, c1]
    have qo := own_oks hk hn
    rw [qA, qD] at qo
    refine Go.callI (pc' := 13) (a := b58) (W := 1) (argsL := [(.int (1 : Int32)), (.int x1)]) (rest := [(.ref b58)]) X62 hx hby rfl hZ hown (hw _ (List.mem_of_getElem? (i := 9) rfl)) (hw _ (List.mem_of_getElem? (i := 10) rfl)) (hw _ (List.mem_of_getElem? (i := 8) rfl)) (hw _ (List.mem_of_getElem? (i := 11) rfl)) (by decide) (rmO l Z a0 hw b58 (1 : Int32) x1 h60 n0 g67 z68 f69 f70 f71 qo) e63 (by decide) (by decide) (by rw [hml]; rfl) pd_1 rfl rfl rfl (Nat.le_of_eq rfl) d1_10 rfl (by decide) (by decide) ?_
    rintro r72 T73 L74 X75 ⟨rfl, N9, K9, E9, F9, G9⟩
    show Go p e below _ (T73.setTop (mkF m 13 #[.val (.int x0), .val (.int x1), .unset] [(.ref b58)]))
    refine Go.astoreN (Ls' := #[.val (.int x0), .val (.int x1), .val (.ref b58)]) (pc' := 14) X75 hx hby d1_13 rfl rfl rfl ?_
    refine Go.goto (pc' := 63) X75 hx hby d1_14 (by decide) (by decide) ?_
    refine Go.aloadN (pc' := 64) X75 hx hby d1_63 rfl rfl rfl ?_
    exact Go.retA X75 hx hby hlk hret rfl rfl rfl d1_64 (by decide) (by decide) ⟨b58, rfl, by rw [g61]; exact Nat.le_refl _, Fr.app (Fr.nil _) N9, ((Keep.refl h0 []).ext E64).trans K9 (allS (Or.inr (by rw [g61]; exact Nat.le_refl _)) all0), E9, by rw [qA]; exact F9, by rw [qD]; exact G9⟩
theorem d5_0 : decode method_3_code 0 = .ok (.iload_n 0, 1) := by decide +kernel
theorem d5_1 : decode method_3_code 1 = .ok (.ifCond .ne 10, 3) := by decide +kernel
theorem d5_4 : decode method_3_code 4 = .ok (.iconst 1, 1) := by decide +kernel
theorem d5_5 : decode method_3_code 5 = .ok (.iload_n 1, 1) := by decide +kernel
theorem d5_6 : decode method_3_code 6 = .ok (.isub, 1) := by decide +kernel
theorem d5_7 : decode method_3_code 7 = .ok (.istore_n 2, 1) := by decide +kernel
theorem d5_8 : decode method_3_code 8 = .ok (.goto 34, 3) := by decide +kernel
theorem d5_11 : decode method_3_code 11 = .ok (.iload_n 0, 1) := by decide +kernel
theorem d5_12 : decode method_3_code 12 = .ok (.iconst 1, 1) := by decide +kernel
theorem d5_13 : decode method_3_code 13 = .ok (.if_icmp .ne 17, 3) := by decide +kernel
theorem d5_16 : decode method_3_code 16 = .ok (.iload_n 1, 1) := by decide +kernel
theorem d5_17 : decode method_3_code 17 = .ok (.iconst 1, 1) := by decide +kernel
theorem d5_18 : decode method_3_code 18 = .ok (.if_icmp .ne 7, 3) := by decide +kernel
theorem d5_21 : decode method_3_code 21 = .ok (.iconst 0, 1) := by decide +kernel
theorem d5_22 : decode method_3_code 22 = .ok (.goto 4, 3) := by decide +kernel
theorem d5_25 : decode method_3_code 25 = .ok (.iload_n 1, 1) := by decide +kernel
theorem d5_26 : decode method_3_code 26 = .ok (.istore_n 2, 1) := by decide +kernel
theorem d5_27 : decode method_3_code 27 = .ok (.goto 15, 3) := by decide +kernel
theorem d5_30 : decode method_3_code 30 = .ok (.iload_n 0, 1) := by decide +kernel
theorem d5_31 : decode method_3_code 31 = .ok (.iconst 2, 1) := by decide +kernel
theorem d5_32 : decode method_3_code 32 = .ok (.if_icmp .ne 8, 3) := by decide +kernel
theorem d5_35 : decode method_3_code 35 = .ok (.iconst 1, 1) := by decide +kernel
theorem d5_36 : decode method_3_code 36 = .ok (.istore_n 2, 1) := by decide +kernel
theorem d5_37 : decode method_3_code 37 = .ok (.goto 5, 3) := by decide +kernel
theorem d5_40 : decode method_3_code 40 = .ok (.iconst 0, 1) := by decide +kernel
theorem d5_41 : decode method_3_code 41 = .ok (.istore_n 2, 1) := by decide +kernel
theorem d5_42 : decode method_3_code 42 = .ok (.iload_n 2, 1) := by decide +kernel
theorem d5_43 : decode method_3_code 43 = .ok (.ireturn, 1) := by decide +kernel
theorem ef_5 (m : MethodId) (x0 : Int32) (x1 : Int32) : entryFrame m #[(.int x0), (.int x1)] 3 = mkF m 0 #[.val (.int x0), .val (.int x1), .unset] [] := by first | (simp [entryFrame, mkF, argsToLocals, Value.category]; done) | rfl
set_option maxRecDepth 65536 in
set_option maxHeartbeats 40000000 in
theorem rmP (l : Launch) (Z : State) (a0 : Array Value) (hw : ∀ d ∈ tables_1, d.before a0 Z = true) (x0 : Int32) (x1 : Int32) (h0 : Heap) :
    Con l Z (⟨"com/example/salient/salient/combat/odds/OddsCompareToPinLaw", "place", "(II)I"⟩ : MethodName) method_3_code 3 (some .int) [] ({ frames := 0, cells := 0, slots := 0, locals := 0 } : Room) #[(.int x0), (.int x1)] h0 (PQ (some (.int (own_pl x0 x1))) h0) := by
  refine Con.of (plainFor_of_name pn_OddsCompareToPinLaw) ?_
  intro p e s m below meth c s₁ hx hby hml hown hnm hret hlk hZ X0 e0
  refine Go.cast (ef_5 m x0 x1) ?_
  replace hown : s.vm.findClass "com/example/salient/salient/combat/odds/OddsCompareToPinLaw" = some m.cls := hown
  refine Go.iloadN (pc' := 1) X0 hx hby d5_0 rfl rfl ?_
  refine Go.if_ (pc' := 11) (pn := 4) X0 hx hby d5_1 (by decide) (by decide) rfl (fun (c1 : x0 ≠ 0) => ?_) (fun (c1 : ¬ (x0 ≠ 0)) => ?_)
  ·
    refine Go.iloadN (pc' := 12) X0 hx hby d5_11 rfl rfl ?_
    refine Go.iconst (pc' := 13) X0 hx hby d5_12 rfl (v := (1 : Int32)) (by decide) ?_
    refine Go.icmp (pc' := 30) (pn := 16) X0 hx hby d5_13 (by decide) (by decide) rfl (fun (c2 : x0 ≠ (1 : Int32)) => ?_) (fun (c2 : ¬ (x0 ≠ (1 : Int32))) => ?_)
    ·
      refine Go.iloadN (pc' := 31) X0 hx hby d5_30 rfl rfl ?_
      refine Go.iconst (pc' := 32) X0 hx hby d5_31 rfl (v := (2 : Int32)) (by decide) ?_
      refine Go.icmp (pc' := 40) (pn := 35) X0 hx hby d5_32 (by decide) (by decide) rfl (fun (c3 : x0 ≠ (2 : Int32)) => ?_) (fun (c3 : ¬ (x0 ≠ (2 : Int32))) => ?_)
      ·
        refine Go.iconst (pc' := 41) X0 hx hby d5_40 rfl (v := (0 : Int32)) (by decide) ?_
        refine Go.istoreN (Ls' := #[.val (.int x0), .val (.int x1), .val (.int (0 : Int32))]) (pc' := 42) X0 hx hby d5_41 rfl rfl ?_
        refine Go.iloadN (pc' := 43) X0 hx hby d5_42 rfl rfl ?_
        exact Go.retI X0 hx hby hlk hret d5_43 (by decide) (by decide) ⟨congrArg (fun q => some (Value.int q)) (by (have z0_ : (0 : Int32).toInt = 0 := by decide); simp only [own_pl]; (repeat' split) <;> first | rfl | contradiction | (exfalso; simp only [Int32.lt_iff_toInt_lt, Int32.le_iff_toInt_le, z0_] at *; omega)), rfl, e0⟩
      ·
        refine Go.iconst (pc' := 36) X0 hx hby d5_35 rfl (v := (1 : Int32)) (by decide) ?_
        refine Go.istoreN (Ls' := #[.val (.int x0), .val (.int x1), .val (.int (1 : Int32))]) (pc' := 37) X0 hx hby d5_36 rfl rfl ?_
        refine Go.goto (pc' := 42) X0 hx hby d5_37 (by decide) (by decide) ?_
        refine Go.iloadN (pc' := 43) X0 hx hby d5_42 rfl rfl ?_
        exact Go.retI X0 hx hby hlk hret d5_43 (by decide) (by decide) ⟨congrArg (fun q => some (Value.int q)) (by (have z0_ : (0 : Int32).toInt = 0 := by decide); simp only [own_pl]; (repeat' split) <;> first | rfl | contradiction | (exfalso; simp only [Int32.lt_iff_toInt_lt, Int32.le_iff_toInt_le, z0_] at *; omega)), rfl, e0⟩
    ·
      refine Go.iloadN (pc' := 17) X0 hx hby d5_16 rfl rfl ?_
      refine Go.iconst (pc' := 18) X0 hx hby d5_17 rfl (v := (1 : Int32)) (by decide) ?_
      refine Go.icmp (pc' := 25) (pn := 21) X0 hx hby d5_18 (by decide) (by decide) rfl (fun (c4 : x1 ≠ (1 : Int32)) => ?_) (fun (c4 : ¬ (x1 ≠ (1 : Int32))) => ?_)
      ·
        refine Go.iloadN (pc' := 26) X0 hx hby d5_25 rfl rfl ?_
        refine Go.istoreN (Ls' := #[.val (.int x0), .val (.int x1), .val (.int x1)]) (pc' := 27) X0 hx hby d5_26 rfl rfl ?_
        refine Go.goto (pc' := 42) X0 hx hby d5_27 (by decide) (by decide) ?_
        refine Go.iloadN (pc' := 43) X0 hx hby d5_42 rfl rfl ?_
        exact Go.retI X0 hx hby hlk hret d5_43 (by decide) (by decide) ⟨congrArg (fun q => some (Value.int q)) (by (have z0_ : (0 : Int32).toInt = 0 := by decide); simp only [own_pl]; (repeat' split) <;> first | rfl | contradiction | (exfalso; simp only [Int32.lt_iff_toInt_lt, Int32.le_iff_toInt_le, z0_] at *; omega)), rfl, e0⟩
      ·
        refine Go.iconst (pc' := 22) X0 hx hby d5_21 rfl (v := (0 : Int32)) (by decide) ?_
        refine Go.goto (pc' := 26) X0 hx hby d5_22 (by decide) (by decide) ?_
        refine Go.istoreN (Ls' := #[.val (.int x0), .val (.int x1), .val (.int (0 : Int32))]) (pc' := 27) X0 hx hby d5_26 rfl rfl ?_
        refine Go.goto (pc' := 42) X0 hx hby d5_27 (by decide) (by decide) ?_
        refine Go.iloadN (pc' := 43) X0 hx hby d5_42 rfl rfl ?_
        exact Go.retI X0 hx hby hlk hret d5_43 (by decide) (by decide) ⟨congrArg (fun q => some (Value.int q)) (by (have z0_ : (0 : Int32).toInt = 0 := by decide); simp only [own_pl]; (repeat' split) <;> first | rfl | contradiction | (exfalso; simp only [Int32.lt_iff_toInt_lt, Int32.le_iff_toInt_le, z0_] at *; omega)), rfl, e0⟩
  ·
    refine Go.iconst (pc' := 5) X0 hx hby d5_4 rfl (v := (1 : Int32)) (by decide) ?_
    refine Go.iloadN (pc' := 6) X0 hx hby d5_5 rfl rfl ?_
    refine Go.isub (pc' := 7) X0 hx hby d5_6 rfl ?_
    refine Go.istoreN (Ls' := #[.val (.int x0), .val (.int x1), .val (.int ((1 : Int32) - x1))]) (pc' := 8) X0 hx hby d5_7 rfl rfl ?_
    refine Go.goto (pc' := 42) X0 hx hby d5_8 (by decide) (by decide) ?_
    refine Go.iloadN (pc' := 43) X0 hx hby d5_42 rfl rfl ?_
    exact Go.retI X0 hx hby hlk hret d5_43 (by decide) (by decide) ⟨congrArg (fun q => some (Value.int q)) (by (have z0_ : (0 : Int32).toInt = 0 := by decide); simp only [own_pl]; (repeat' split) <;> first | rfl | contradiction | (exfalso; simp only [Int32.lt_iff_toInt_lt, Int32.le_iff_toInt_le, z0_] at *; omega)), rfl, e0⟩
theorem d7_0 : decode jdk_35_method_42_code 0 = .ok (.lload_n 0, 1) := by decide +kernel
theorem d7_1 : decode jdk_35_method_42_code 1 = .ok (.lload_n 2, 1) := by decide +kernel
theorem d7_2 : decode jdk_35_method_42_code 2 = .ok (.lcmp, 1) := by decide +kernel
theorem d7_3 : decode jdk_35_method_42_code 3 = .ok (.ifCond .ge 7, 3) := by decide +kernel
theorem d7_6 : decode jdk_35_method_42_code 6 = .ok (.iconst (-1), 1) := by decide +kernel
theorem d7_7 : decode jdk_35_method_42_code 7 = .ok (.goto 14, 3) := by decide +kernel
theorem d7_10 : decode jdk_35_method_42_code 10 = .ok (.lload_n 0, 1) := by decide +kernel
theorem d7_11 : decode jdk_35_method_42_code 11 = .ok (.lload_n 2, 1) := by decide +kernel
theorem d7_12 : decode jdk_35_method_42_code 12 = .ok (.lcmp, 1) := by decide +kernel
theorem d7_13 : decode jdk_35_method_42_code 13 = .ok (.ifCond .ne 7, 3) := by decide +kernel
theorem d7_16 : decode jdk_35_method_42_code 16 = .ok (.iconst 0, 1) := by decide +kernel
theorem d7_17 : decode jdk_35_method_42_code 17 = .ok (.goto 4, 3) := by decide +kernel
theorem d7_20 : decode jdk_35_method_42_code 20 = .ok (.iconst 1, 1) := by decide +kernel
theorem d7_21 : decode jdk_35_method_42_code 21 = .ok (.ireturn, 1) := by decide +kernel
theorem ef_7 (m : MethodId) (x0 : Int64) (x1 : Int64) : entryFrame m #[(.long x0), (.long x1)] 4 = mkF m 0 #[.val (.long x0), .second, .val (.long x1), .second] [] := by first | (simp [entryFrame, mkF, argsToLocals, Value.category]; done) | rfl
theorem pn_Long : plainName "java/lang/Long" = true := by first | (simp [plainName, overriddenIn]; done) | decide +kernel
set_option maxRecDepth 65536 in
set_option maxHeartbeats 40000000 in
theorem rmL (l : Launch) (Z : State) (a0 : Array Value) (hw : ∀ d ∈ tables_1, d.before a0 Z = true) (x0 : Int64) (x1 : Int64) (h0 : Heap) :
    Con l Z (⟨"java/lang/Long", "compare", "(JJ)I"⟩ : MethodName) jdk_35_method_42_code 4 (some .int) [] ({ frames := 0, cells := 0, slots := 0, locals := 0 } : Room) #[(.long x0), (.long x1)] h0 (PQ (some (.int (own_lc x0 x1))) h0) := by
  refine Con.of (plainFor_of_name pn_Long) ?_
  intro p e s m below meth c s₁ hx hby hml hown hnm hret hlk hZ X0 e0
  refine Go.cast (ef_7 m x0 x1) ?_
  replace hown : s.vm.findClass "java/lang/Long" = some m.cls := hown
  refine Go.lloadN (pc' := 1) X0 hx hby d7_0 rfl rfl ?_
  refine Go.lloadN (pc' := 2) X0 hx hby d7_1 rfl rfl ?_
  refine Go.lcmp (pc' := 3) X0 hx hby d7_2 rfl ?_
  refine Go.if_ (pc' := 10) (pn := 6) X0 hx hby d7_3 (by decide) (by decide) rfl (fun (c1 : 0 ≤ (lcmpW x0 x1)) => ?_) (fun (c1 : ¬ (0 ≤ (lcmpW x0 x1))) => ?_)
  ·
    refine Go.lloadN (pc' := 11) X0 hx hby d7_10 rfl rfl ?_
    refine Go.lloadN (pc' := 12) X0 hx hby d7_11 rfl rfl ?_
    refine Go.lcmp (pc' := 13) X0 hx hby d7_12 rfl ?_
    refine Go.if_ (pc' := 20) (pn := 16) X0 hx hby d7_13 (by decide) (by decide) rfl (fun (c2 : (lcmpW x0 x1) ≠ 0) => ?_) (fun (c2 : ¬ ((lcmpW x0 x1) ≠ 0)) => ?_)
    ·
      refine Go.iconst (pc' := 21) X0 hx hby d7_20 rfl (v := (1 : Int32)) (by decide) ?_
      have q1 := lw_lt x0 x1; have q2 := lw_eq x0 x1; have q3 := @Int32.not_lt (lcmpW x0 x1) 0
      exact Go.retI X0 hx hby hlk hret d7_21 (by decide) (by decide) ⟨by simp only [own_lc]; simp_all, rfl, e0⟩
    ·
      refine Go.iconst (pc' := 17) X0 hx hby d7_16 rfl (v := (0 : Int32)) (by decide) ?_
      refine Go.goto (pc' := 21) X0 hx hby d7_17 (by decide) (by decide) ?_
      have q1 := lw_lt x0 x1; have q2 := lw_eq x0 x1; have q3 := @Int32.not_lt (lcmpW x0 x1) 0
      exact Go.retI X0 hx hby hlk hret d7_21 (by decide) (by decide) ⟨by simp only [own_lc]; simp_all, rfl, e0⟩
  ·
    refine Go.iconst (pc' := 7) X0 hx hby d7_6 rfl (v := (-1 : Int32)) (by decide) ?_
    refine Go.goto (pc' := 21) X0 hx hby d7_7 (by decide) (by decide) ?_
    have q1 := lw_lt x0 x1; have q2 := lw_eq x0 x1; have q3 := @Int32.not_lt (lcmpW x0 x1) 0
    exact Go.retI X0 hx hby hlk hret d7_21 (by decide) (by decide) ⟨by simp only [own_lc]; simp_all, rfl, e0⟩
theorem d8_0 : decode method_4_code 0 = .ok (.iload_n 0, 1) := by decide +kernel
theorem d8_1 : decode method_4_code 1 = .ok (.ifCond .ge 7, 3) := by decide +kernel
theorem d8_4 : decode method_4_code 4 = .ok (.iconst (-1), 1) := by decide +kernel
theorem d8_5 : decode method_4_code 5 = .ok (.goto 12, 3) := by decide +kernel
theorem d8_8 : decode method_4_code 8 = .ok (.iload_n 0, 1) := by decide +kernel
theorem d8_9 : decode method_4_code 9 = .ok (.ifCond .le 7, 3) := by decide +kernel
theorem d8_12 : decode method_4_code 12 = .ok (.iconst 1, 1) := by decide +kernel
theorem d8_13 : decode method_4_code 13 = .ok (.goto 4, 3) := by decide +kernel
theorem d8_16 : decode method_4_code 16 = .ok (.iconst 0, 1) := by decide +kernel
theorem d8_17 : decode method_4_code 17 = .ok (.ireturn, 1) := by decide +kernel
theorem ef_8 (m : MethodId) (x0 : Int32) : entryFrame m #[(.int x0)] 1 = mkF m 0 #[.val (.int x0)] [] := by first | (simp [entryFrame, mkF, argsToLocals, Value.category]; done) | rfl
set_option maxRecDepth 65536 in
set_option maxHeartbeats 40000000 in
theorem rmS (l : Launch) (Z : State) (a0 : Array Value) (hw : ∀ d ∈ tables_1, d.before a0 Z = true) (x0 : Int32) (h0 : Heap) :
    Con l Z (⟨"com/example/salient/salient/combat/odds/OddsCompareToPinLaw", "sign", "(I)I"⟩ : MethodName) method_4_code 1 (some .int) [] ({ frames := 0, cells := 0, slots := 0, locals := 0 } : Room) #[(.int x0)] h0 (PQ (some (.int (own_sg x0))) h0) := by
  refine Con.of (plainFor_of_name pn_OddsCompareToPinLaw) ?_
  intro p e s m below meth c s₁ hx hby hml hown hnm hret hlk hZ X0 e0
  refine Go.cast (ef_8 m x0) ?_
  replace hown : s.vm.findClass "com/example/salient/salient/combat/odds/OddsCompareToPinLaw" = some m.cls := hown
  refine Go.iloadN (pc' := 1) X0 hx hby d8_0 rfl rfl ?_
  refine Go.if_ (pc' := 8) (pn := 4) X0 hx hby d8_1 (by decide) (by decide) rfl (fun (c1 : 0 ≤ x0) => ?_) (fun (c1 : ¬ (0 ≤ x0)) => ?_)
  ·
    refine Go.iloadN (pc' := 9) X0 hx hby d8_8 rfl rfl ?_
    refine Go.if_ (pc' := 16) (pn := 12) X0 hx hby d8_9 (by decide) (by decide) rfl (fun (c2 : x0 ≤ 0) => ?_) (fun (c2 : ¬ (x0 ≤ 0)) => ?_)
    ·
      refine Go.iconst (pc' := 17) X0 hx hby d8_16 rfl (v := (0 : Int32)) (by decide) ?_
      exact Go.retI X0 hx hby hlk hret d8_17 (by decide) (by decide) ⟨congrArg (fun q => some (Value.int q)) (by (have z0_ : (0 : Int32).toInt = 0 := by decide); simp only [own_sg]; (repeat' split) <;> first | rfl | contradiction | (exfalso; simp only [Int32.lt_iff_toInt_lt, Int32.le_iff_toInt_le, z0_] at *; omega)), rfl, e0⟩
    ·
      refine Go.iconst (pc' := 13) X0 hx hby d8_12 rfl (v := (1 : Int32)) (by decide) ?_
      refine Go.goto (pc' := 17) X0 hx hby d8_13 (by decide) (by decide) ?_
      exact Go.retI X0 hx hby hlk hret d8_17 (by decide) (by decide) ⟨congrArg (fun q => some (Value.int q)) (by (have z0_ : (0 : Int32).toInt = 0 := by decide); simp only [own_sg]; (repeat' split) <;> first | rfl | contradiction | (exfalso; simp only [Int32.lt_iff_toInt_lt, Int32.le_iff_toInt_le, z0_] at *; omega)), rfl, e0⟩
  ·
    refine Go.iconst (pc' := 5) X0 hx hby d8_4 rfl (v := (-1 : Int32)) (by decide) ?_
    refine Go.goto (pc' := 17) X0 hx hby d8_5 (by decide) (by decide) ?_
    exact Go.retI X0 hx hby hlk hret d8_17 (by decide) (by decide) ⟨congrArg (fun q => some (Value.int q)) (by (have z0_ : (0 : Int32).toInt = 0 := by decide); simp only [own_sg]; (repeat' split) <;> first | rfl | contradiction | (exfalso; simp only [Int32.lt_iff_toInt_lt, Int32.le_iff_toInt_le, z0_] at *; omega)), rfl, e0⟩
theorem d6_0 : decode prog_12_method_6_code 0 = .ok (.aload_n 0, 1) := by decide +kernel
theorem d6_1 : decode prog_12_method_6_code 1 = .ok (.getfield 19, 3) := by decide +kernel
theorem d6_4 : decode prog_12_method_6_code 4 = .ok (.i2l, 1) := by decide +kernel
theorem d6_5 : decode prog_12_method_6_code 5 = .ok (.aload_n 1, 1) := by decide +kernel
theorem d6_6 : decode prog_12_method_6_code 6 = .ok (.getfield 23, 3) := by decide +kernel
theorem d6_9 : decode prog_12_method_6_code 9 = .ok (.i2l, 1) := by decide +kernel
theorem d6_10 : decode prog_12_method_6_code 10 = .ok (.lmul, 1) := by decide +kernel
theorem d6_11 : decode prog_12_method_6_code 11 = .ok (.aload_n 1, 1) := by decide +kernel
theorem d6_12 : decode prog_12_method_6_code 12 = .ok (.getfield 19, 3) := by decide +kernel
theorem d6_15 : decode prog_12_method_6_code 15 = .ok (.i2l, 1) := by decide +kernel
theorem d6_16 : decode prog_12_method_6_code 16 = .ok (.aload_n 0, 1) := by decide +kernel
theorem d6_17 : decode prog_12_method_6_code 17 = .ok (.getfield 23, 3) := by decide +kernel
theorem d6_20 : decode prog_12_method_6_code 20 = .ok (.i2l, 1) := by decide +kernel
theorem d6_21 : decode prog_12_method_6_code 21 = .ok (.lmul, 1) := by decide +kernel
theorem d6_22 : decode prog_12_method_6_code 22 = .ok (.invokestatic 117, 3) := by decide +kernel
theorem d6_25 : decode prog_12_method_6_code 25 = .ok (.ireturn, 1) := by decide +kernel
theorem ef_6 (m : MethodId) (x0 : Addr) (x1 : Addr) : entryFrame m #[(.ref x0), (.ref x1)] 2 = mkF m 0 #[.val (.ref x0), .val (.ref x1)] [] := by first | (simp [entryFrame, mkF, argsToLocals, Value.category]; done) | rfl
set_option maxRecDepth 65536 in
set_option maxHeartbeats 40000000 in
theorem rmC (l : Launch) (Z : State) (a0 : Array Value) (hw : ∀ d ∈ tables_1, d.before a0 Z = true) (a : Addr) (b : Addr) (h0 : Heap) (A1 D1 A2 D2 : Int32) (F1 : Fld Z h0 a "com/example/salient/salient/combat/odds/Odds" "attack" "I" (.int A1)) (F2 : Fld Z h0 a "com/example/salient/salient/combat/odds/Odds" "defense" "I" (.int D1)) (F3 : Fld Z h0 b "com/example/salient/salient/combat/odds/Odds" "attack" "I" (.int A2)) (F4 : Fld Z h0 b "com/example/salient/salient/combat/odds/Odds" "defense" "I" (.int D2)) :
    Con l Z (⟨"com/example/salient/salient/combat/odds/Odds", "compareTo", "(Lcom/example/salient/salient/combat/odds/Odds;)I"⟩ : MethodName) prog_12_method_6_code 2 (some .int) [] ({ frames := 1, cells := 0, slots := 0, locals := 15 } : Room) #[(.ref a), (.ref b)] h0 (PQ (some (.int (own_lc (A1.toInt64 * D2.toInt64) (A2.toInt64 * D1.toInt64)))) h0) := by
  refine Con.of (plainFor_of_name pn_Odds) ?_
  intro p e s m below meth c s₁ hx hby hml hown hnm hret hlk hZ X0 e0
  refine Go.cast (ef_6 m a b) ?_
  replace hown : s.vm.findClass "com/example/salient/salient/combat/odds/Odds" = some m.cls := hown
  refine Go.aloadN (pc' := 1) X0 hx hby d6_0 rfl rfl rfl ?_
  refine Go.getF (pc' := 4) X0 hx hby hZ hown (hw _ (List.mem_of_getElem? (i := 21) rfl)) Via.refl e0 F1 d6_1 rfl ?_
  intro T1 X2 e3
  show Go p e below _ (T1.setTop (mkF m 4 #[.val (.ref a), .val (.ref b)] [(.int A1)]))
  refine Go.i2l (pc' := 5) X2 hx hby d6_4 rfl ?_
  refine Go.aloadN (pc' := 6) X2 hx hby d6_5 rfl rfl rfl ?_
  refine Go.getF (pc' := 9) X2 hx hby hZ hown (hw _ (List.mem_of_getElem? (i := 23) rfl)) Via.refl e3 F4 d6_6 rfl ?_
  intro T4 X5 e6
  show Go p e below _ (T4.setTop (mkF m 9 #[.val (.ref a), .val (.ref b)] [(.int D2), (.long A1.toInt64)]))
  refine Go.i2l (pc' := 10) X5 hx hby d6_9 rfl ?_
  refine Go.lmul (pc' := 11) X5 hx hby d6_10 rfl ?_
  refine Go.aloadN (pc' := 12) X5 hx hby d6_11 rfl rfl rfl ?_
  refine Go.getF (pc' := 15) X5 hx hby hZ hown (hw _ (List.mem_of_getElem? (i := 21) rfl)) Via.refl e6 F3 d6_12 rfl ?_
  intro T7 X8 e9
  show Go p e below _ (T7.setTop (mkF m 15 #[.val (.ref a), .val (.ref b)] [(.int A2), (.long (A1.toInt64 * D2.toInt64))]))
  refine Go.i2l (pc' := 16) X8 hx hby d6_15 rfl ?_
  refine Go.aloadN (pc' := 17) X8 hx hby d6_16 rfl rfl rfl ?_
  refine Go.getF (pc' := 20) X8 hx hby hZ hown (hw _ (List.mem_of_getElem? (i := 23) rfl)) Via.refl e9 F2 d6_17 rfl ?_
  intro T10 X11 e12
  show Go p e below _ (T10.setTop (mkF m 20 #[.val (.ref a), .val (.ref b)] [(.int D1), (.long A2.toInt64), (.long (A1.toInt64 * D2.toInt64))]))
  refine Go.i2l (pc' := 21) X11 hx hby d6_20 rfl ?_
  refine Go.lmul (pc' := 22) X11 hx hby d6_21 rfl ?_
  refine Go.callS (pc' := 25) (W := 0) (argsL := [(.long (A1.toInt64 * D2.toInt64)), (.long (A2.toInt64 * D1.toInt64))]) (rest := []) X11 hx hby hZ hown (hw _ (List.mem_of_getElem? (i := 33) rfl)) (hw _ (List.mem_of_getElem? (i := 34) rfl)) (hw _ (List.mem_of_getElem? (i := 35) rfl)) (hw _ (List.mem_of_getElem? (i := 36) rfl)) (by decide) (rmL l Z a0 hw _ _ h0) e12 (by decide) (by decide) (by rw [hml]; rfl) pd_2 rfl rfl rfl (Nat.le_of_eq rfl) d6_22 rfl (by decide) (by decide) ?_
  rintro r13 T14 L15 X16 ⟨rfl, rfl, e18⟩
  rw [List.append_nil] at X16
  show Go p e below _ (T14.setTop (mkF m 25 #[.val (.ref a), .val (.ref b)] [(.int (own_lc (A1.toInt64 * D2.toInt64) (A2.toInt64 * D1.toInt64)))]))
  exact Go.retI X16 hx hby hlk hret d6_25 (by decide) (by decide) ⟨rfl, rfl, e18⟩
theorem ef_0 (m : MethodId) (x0 : Int32) (x1 : Int32) (x2 : Int32) (x3 : Int32) : entryFrame m #[(.int x0), (.int x1), (.int x2), (.int x3)] maxLocals = mkF m 0 #[.val (.int x0), .val (.int x1), .val (.int x2), .val (.int x3), .unset, .unset, .unset, .unset, .unset, .unset, .unset, .unset, .unset] [] := by first | (simp [entryFrame, mkF, argsToLocals, Value.category, maxLocals]; done) | rfl
set_option maxRecDepth 65536 in
set_option maxHeartbeats 40000000 in
theorem rm0 (l : Launch) (Z : State) (a0 : Array Value) (hw : ∀ d ∈ tables_1, d.before a0 Z = true) (x0 : Int32) (x1 : Int32) (x2 : Int32) (x3 : Int32) (h0 : Heap) :
    Con l Z x code maxLocals ret tables_1 room_1 #[(.int x0), (.int x1), (.int x2), (.int x3)] h0 (LQ h0.size) := by
  refine Con.of (plainFor_of_name pn_OddsCompareToPinLaw) ?_
  intro p e s m below meth c s₁ hx hby hml hown hnm hret hlk hZ X0 e0
  refine Go.cast (ef_0 m x0 x1 x2 x3) ?_
  change c.maxLocals = 13 at hml
  replace hown : s.vm.findClass "com/example/salient/salient/combat/odds/OddsCompareToPinLaw" = some m.cls := hown
  refine Go.iloadN (pc' := 1) X0 hx hby at_0 rfl rfl ?_
  refine Go.ldcI (pc' := 3) X0 hx hby at_1 rfl hown (mvT hZ (hw _ (List.mem_of_getElem? (i := 0) rfl))) ?_
  refine Go.iand (pc' := 4) X0 hx hby at_3 rfl ?_
  refine Go.iconst (pc' := 5) X0 hx hby at_4 rfl (v := (4 : Int32)) (by decide) ?_
  refine Go.irem (pc' := 6) X0 hx hby at_5 rfl (by decide) ?_
  refine Go.nmI (fun (ka : Int32) (hka : ka = (x0 &&& (2147483647 : Int32)) % (4 : Int32)) => ?_)
  refine Go.istore (Ls' := #[.val (.int x0), .val (.int x1), .val (.int x2), .val (.int x3), .val (.int ka), .unset, .unset, .unset, .unset, .unset, .unset, .unset, .unset]) (pc' := 8) X0 hx hby at_6 rfl rfl ?_
  refine Go.iloadN (pc' := 9) X0 hx hby at_8 rfl rfl ?_
  refine Go.ldcI (pc' := 11) X0 hx hby at_9 rfl hown (mvT hZ (hw _ (List.mem_of_getElem? (i := 0) rfl))) ?_
  refine Go.iand (pc' := 12) X0 hx hby at_11 rfl ?_
  refine Go.ldcI (pc' := 14) X0 hx hby at_12 rfl hown (mvT hZ (hw _ (List.mem_of_getElem? (i := 1) rfl))) ?_
  refine Go.irem (pc' := 15) X0 hx hby at_14 rfl (by decide) ?_
  refine Go.iconst (pc' := 16) X0 hx hby at_15 rfl (v := (1 : Int32)) (by decide) ?_
  refine Go.iadd (pc' := 17) X0 hx hby at_16 rfl ?_
  refine Go.nmI (fun (na : Int32) (hna : na = ((x1 &&& (2147483647 : Int32)) % (999999999 : Int32)) + (1 : Int32)) => ?_)
  refine Go.istore (Ls' := #[.val (.int x0), .val (.int x1), .val (.int x2), .val (.int x3), .val (.int ka), .val (.int na), .unset, .unset, .unset, .unset, .unset, .unset, .unset]) (pc' := 19) X0 hx hby at_17 rfl rfl ?_
  refine Go.iloadN (pc' := 20) X0 hx hby at_19 rfl rfl ?_
  refine Go.ldcI (pc' := 22) X0 hx hby at_20 rfl hown (mvT hZ (hw _ (List.mem_of_getElem? (i := 0) rfl))) ?_
  refine Go.iand (pc' := 23) X0 hx hby at_22 rfl ?_
  refine Go.iconst (pc' := 24) X0 hx hby at_23 rfl (v := (4 : Int32)) (by decide) ?_
  refine Go.irem (pc' := 25) X0 hx hby at_24 rfl (by decide) ?_
  refine Go.nmI (fun (kb : Int32) (hkb : kb = (x2 &&& (2147483647 : Int32)) % (4 : Int32)) => ?_)
  refine Go.istore (Ls' := #[.val (.int x0), .val (.int x1), .val (.int x2), .val (.int x3), .val (.int ka), .val (.int na), .val (.int kb), .unset, .unset, .unset, .unset, .unset, .unset]) (pc' := 27) X0 hx hby at_25 rfl rfl ?_
  refine Go.iloadN (pc' := 28) X0 hx hby at_27 rfl rfl ?_
  refine Go.ldcI (pc' := 30) X0 hx hby at_28 rfl hown (mvT hZ (hw _ (List.mem_of_getElem? (i := 0) rfl))) ?_
  refine Go.iand (pc' := 31) X0 hx hby at_30 rfl ?_
  refine Go.ldcI (pc' := 33) X0 hx hby at_31 rfl hown (mvT hZ (hw _ (List.mem_of_getElem? (i := 1) rfl))) ?_
  refine Go.irem (pc' := 34) X0 hx hby at_33 rfl (by decide) ?_
  refine Go.iconst (pc' := 35) X0 hx hby at_34 rfl (v := (1 : Int32)) (by decide) ?_
  refine Go.iadd (pc' := 36) X0 hx hby at_35 rfl ?_
  refine Go.nmI (fun (nb : Int32) (hnb : nb = ((x3 &&& (2147483647 : Int32)) % (999999999 : Int32)) + (1 : Int32)) => ?_)
  refine Go.istore (Ls' := #[.val (.int x0), .val (.int x1), .val (.int x2), .val (.int x3), .val (.int ka), .val (.int na), .val (.int kb), .val (.int nb), .unset, .unset, .unset, .unset, .unset]) (pc' := 38) X0 hx hby at_36 rfl rfl ?_
  refine Go.iload (pc' := 40) X0 hx hby at_38 rfl rfl ?_
  refine Go.iload (pc' := 42) X0 hx hby at_40 rfl rfl ?_
  have ka4 : ka = 0 ∨ ka = 1 ∨ ka = 2 ∨ ka = 3 := by rw [hka]; exact own_k4 x0
  have kb4 : kb = 0 ∨ kb = 1 ∨ kb = 2 ∨ kb = 3 := by rw [hkb]; exact own_k4 x2
  have na9 : 1 ≤ na.toInt ∧ na.toInt ≤ 999999999 := by rw [hna]; exact own_n9 x1
  have nb9 : 1 ≤ nb.toInt ∧ nb.toInt ≤ 999999999 := by rw [hnb]; exact own_n9 x3
  refine Go.callS (pc' := 45) (W := 0) (argsL := [(.int ka), (.int na)]) (rest := []) X0 hx hby hZ hown (hw _ (List.mem_of_getElem? (i := 2) rfl)) (hw _ (List.mem_of_getElem? (i := 3) rfl)) (hw _ (List.mem_of_getElem? (i := 4) rfl)) (hw _ (List.mem_of_getElem? (i := 5) rfl)) (by decide) (rmM l Z a0 hw ka na h0 h0.size (Nat.le_refl _) ka4 na9) e0 (by decide) (by decide) (by rw [hml]; rfl) pd_5 rfl rfl rfl (Nat.le_of_eq rfl) at_42 rfl (by decide) (by decide) ?_
  rintro r1 T2 L3 X4 ⟨b1, rfl, gb1, N1, K1, E1, F1, G1⟩
  have Z1 : h0.size ≤ T2.heap.size := K1.1
  show Go p e below _ (T2.setTop (mkF m 45 #[.val (.int x0), .val (.int x1), .val (.int x2), .val (.int x3), .val (.int ka), .val (.int na), .val (.int kb), .val (.int nb), .unset, .unset, .unset, .unset, .unset] [(.ref b1)]))
  refine Go.astore (Ls' := #[.val (.int x0), .val (.int x1), .val (.int x2), .val (.int x3), .val (.int ka), .val (.int na), .val (.int kb), .val (.int nb), .val (.ref b1), .unset, .unset, .unset, .unset]) (pc' := 47) X4 hx hby at_45 rfl rfl rfl ?_
  refine Go.iload (pc' := 49) X4 hx hby at_47 rfl rfl ?_
  refine Go.iload (pc' := 51) X4 hx hby at_49 rfl rfl ?_
  refine Go.callS (pc' := 54) (W := 0) (argsL := [(.int kb), (.int nb)]) (rest := []) X4 hx hby hZ hown (hw _ (List.mem_of_getElem? (i := 2) rfl)) (hw _ (List.mem_of_getElem? (i := 3) rfl)) (hw _ (List.mem_of_getElem? (i := 4) rfl)) (hw _ (List.mem_of_getElem? (i := 5) rfl)) (by decide) (rmM l Z a0 hw kb nb T2.heap h0.size Z1 kb4 nb9) rfl (by decide) (by decide) (by rw [hml]; rfl) pd_5 rfl rfl rfl (Nat.le_of_eq rfl) at_51 rfl (by decide) (by decide) ?_
  rintro r5 T6 L7 X8 ⟨b2, rfl, gb2, N2, K2, E2, F2, G2⟩
  show Go p e below _ (T6.setTop (mkF m 54 #[.val (.int x0), .val (.int x1), .val (.int x2), .val (.int x3), .val (.int ka), .val (.int na), .val (.int kb), .val (.int nb), .val (.ref b1), .unset, .unset, .unset, .unset] [(.ref b2)]))
  have E1' := E1.keep K2
  have F1' := F1.keep K2 nin0
  have G1' := G1.keep K2 nin0
  refine Go.astore (Ls' := #[.val (.int x0), .val (.int x1), .val (.int x2), .val (.int x3), .val (.int ka), .val (.int na), .val (.int kb), .val (.int nb), .val (.ref b1), .val (.ref b2), .unset, .unset, .unset]) (pc' := 56) X8 hx hby at_54 rfl rfl rfl ?_
  refine Go.iload (pc' := 58) X8 hx hby at_56 rfl rfl ?_
  refine Go.iload (pc' := 60) X8 hx hby at_58 rfl rfl ?_
  refine Go.callS (pc' := 63) (W := 0) (argsL := [(.int ka), (.int na)]) (rest := []) X8 hx hby hZ hown (hw _ (List.mem_of_getElem? (i := 25) rfl)) (hw _ (List.mem_of_getElem? (i := 26) rfl)) (hw _ (List.mem_of_getElem? (i := 4) rfl)) (hw _ (List.mem_of_getElem? (i := 27) rfl)) (by decide) (rmP l Z a0 hw ka na _) rfl (by decide) (by decide) (by rw [hml]; rfl) pd_3 rfl rfl rfl (Nat.le_of_eq rfl) at_60 rfl (by decide) (by decide) ?_
  rintro r9 T10 L11 X12 ⟨rfl, rfl, e14⟩
  rw [List.append_nil] at X12
  show Go p e below _ (T10.setTop (mkF m 63 #[.val (.int x0), .val (.int x1), .val (.int x2), .val (.int x3), .val (.int ka), .val (.int na), .val (.int kb), .val (.int nb), .val (.ref b1), .val (.ref b2), .unset, .unset, .unset] [(.int (own_pl ka na))]))
  refine Go.istore (Ls' := #[.val (.int x0), .val (.int x1), .val (.int x2), .val (.int x3), .val (.int ka), .val (.int na), .val (.int kb), .val (.int nb), .val (.ref b1), .val (.ref b2), .val (.int (own_pl ka na)), .unset, .unset]) (pc' := 65) X12 hx hby at_63 rfl rfl ?_
  refine Go.iload (pc' := 67) X12 hx hby at_65 rfl rfl ?_
  refine Go.iload (pc' := 69) X12 hx hby at_67 rfl rfl ?_
  refine Go.callS (pc' := 72) (W := 0) (argsL := [(.int kb), (.int nb)]) (rest := []) X12 hx hby hZ hown (hw _ (List.mem_of_getElem? (i := 25) rfl)) (hw _ (List.mem_of_getElem? (i := 26) rfl)) (hw _ (List.mem_of_getElem? (i := 4) rfl)) (hw _ (List.mem_of_getElem? (i := 27) rfl)) (by decide) (rmP l Z a0 hw kb nb _) e14 (by decide) (by decide) (by rw [hml]; rfl) pd_3 rfl rfl rfl (Nat.le_of_eq rfl) at_69 rfl (by decide) (by decide) ?_
  rintro r15 T16 L17 X18 ⟨rfl, rfl, e20⟩
  rw [List.append_nil] at X18
  show Go p e below _ (T16.setTop (mkF m 72 #[.val (.int x0), .val (.int x1), .val (.int x2), .val (.int x3), .val (.int ka), .val (.int na), .val (.int kb), .val (.int nb), .val (.ref b1), .val (.ref b2), .val (.int (own_pl ka na)), .unset, .unset] [(.int (own_pl kb nb))]))
  refine Go.istore (Ls' := #[.val (.int x0), .val (.int x1), .val (.int x2), .val (.int x3), .val (.int ka), .val (.int na), .val (.int kb), .val (.int nb), .val (.ref b1), .val (.ref b2), .val (.int (own_pl ka na)), .val (.int (own_pl kb nb)), .unset]) (pc' := 74) X18 hx hby at_72 rfl rfl ?_
  refine Go.iload (pc' := 76) X18 hx hby at_74 rfl rfl ?_
  refine Go.iload (pc' := 78) X18 hx hby at_76 rfl rfl ?_
  refine Go.cut (F := fun (b22 : Int32) => T16.setTop (mkF m 97 #[.val (.int x0), .val (.int x1), .val (.int x2), .val (.int x3), .val (.int ka), .val (.int na), .val (.int kb), .val (.int nb), .val (.ref b1), .val (.ref b2), .val (.int (own_pl ka na)), .val (.int (own_pl kb nb)), .unset] [(.int b22)])) (x := own_w (own_pl ka na) (own_pl kb nb)) ?_ (fun j21 => ?_)
  ·
    show Go p e below _ (T16.setTop (mkF m 97 #[.val (.int x0), .val (.int x1), .val (.int x2), .val (.int x3), .val (.int ka), .val (.int na), .val (.int kb), .val (.int nb), .val (.ref b1), .val (.ref b2), .val (.int (own_pl ka na)), .val (.int (own_pl kb nb)), .unset] [(.int (own_w (own_pl ka na) (own_pl kb nb)))]))
    refine Go.istore (Ls' := #[.val (.int x0), .val (.int x1), .val (.int x2), .val (.int x3), .val (.int ka), .val (.int na), .val (.int kb), .val (.int nb), .val (.ref b1), .val (.ref b2), .val (.int (own_pl ka na)), .val (.int (own_pl kb nb)), .val (.int (own_w (own_pl ka na) (own_pl kb nb)))]) (pc' := 99) X18 hx hby at_97 rfl rfl ?_
    refine Go.aload (pc' := 101) X18 hx hby at_99 rfl rfl rfl ?_
    refine Go.aload (pc' := 103) X18 hx hby at_101 rfl rfl rfl ?_
    refine Go.callV (C := "com/example/salient/salient/combat/odds/Odds") (pc' := 106) (a := b1) (W := 0) (argsL := [(.ref b2)]) (rest := []) X18 hx hby hZ hown (hw _ (List.mem_of_getElem? (i := 28) rfl)) (hw _ (List.mem_of_getElem? (i := 29) rfl)) (notFace_of_selects (args := #[]) (mvT hZ (hw _ (List.mem_of_getElem? (i := 31) rfl)))) (hw _ (List.mem_of_getElem? (i := 31) rfl)) (hw _ (List.mem_of_getElem? (i := 30) rfl)) (hw _ (List.mem_of_getElem? (i := 8) rfl)) (hw _ (List.mem_of_getElem? (i := 32) rfl)) (by decide) (rmC l Z a0 hw b1 b2 _ _ _ _ _ F1' G1' F2 G2) e20 E1' (by decide) (by decide) (by rw [hml]; rfl) pd_6 rfl rfl rfl (Nat.le_of_eq rfl) at_103 rfl (by decide) (by decide) ?_
    rintro r23 T24 L25 X26 ⟨rfl, rfl, e9⟩
    rw [List.append_nil] at X26
    show Go p e below _ (T24.setTop (mkF m 106 #[.val (.int x0), .val (.int x1), .val (.int x2), .val (.int x3), .val (.int ka), .val (.int na), .val (.int kb), .val (.int nb), .val (.ref b1), .val (.ref b2), .val (.int (own_pl ka na)), .val (.int (own_pl kb nb)), .val (.int (own_w (own_pl ka na) (own_pl kb nb)))] [(.int (own_lc ((own_at ka na).toInt64 * (own_df kb nb).toInt64) ((own_at kb nb).toInt64 * (own_df ka na).toInt64)))]))
    refine Go.callS (pc' := 109) (W := 0) (argsL := [(.int (own_lc ((own_at ka na).toInt64 * (own_df kb nb).toInt64) ((own_at kb nb).toInt64 * (own_df ka na).toInt64)))]) (rest := []) X26 hx hby hZ hown (hw _ (List.mem_of_getElem? (i := 37) rfl)) (hw _ (List.mem_of_getElem? (i := 38) rfl)) (hw _ (List.mem_of_getElem? (i := 4) rfl)) (hw _ (List.mem_of_getElem? (i := 39) rfl)) (by decide) (rmS l Z a0 hw (own_lc ((own_at ka na).toInt64 * (own_df kb nb).toInt64) ((own_at kb nb).toInt64 * (own_df ka na).toInt64)) _) e9 (by decide) (by decide) (by rw [hml]; rfl) pd_4 rfl rfl rfl (Nat.le_of_eq rfl) at_106 rfl (by decide) (by decide) ?_
    rintro r27 T28 L29 X30 ⟨rfl, rfl, e32⟩
    rw [List.append_nil] at X30
    show Go p e below _ (T28.setTop (mkF m 109 #[.val (.int x0), .val (.int x1), .val (.int x2), .val (.int x3), .val (.int ka), .val (.int na), .val (.int kb), .val (.int nb), .val (.ref b1), .val (.ref b2), .val (.int (own_pl ka na)), .val (.int (own_pl kb nb)), .val (.int (own_w (own_pl ka na) (own_pl kb nb)))] [(.int (own_sg (own_lc ((own_at ka na).toInt64 * (own_df kb nb).toInt64) ((own_at kb nb).toInt64 * (own_df ka na).toInt64))))]))
    refine Go.iload (pc' := 111) X30 hx hby at_109 rfl rfl ?_
    refine Go.icmpN (pc' := 114) X30 hx hby at_111 rfl (show ¬ ((own_sg (own_lc ((own_at ka na).toInt64 * (own_df kb nb).toInt64) ((own_at kb nb).toInt64 * (own_df ka na).toInt64))) ≠ (own_w (own_pl ka na) (own_pl kb nb))) from fun q => q (own_law ka4 kb4 na9 nb9)) ?_
    refine Go.iconst (pc' := 115) X30 hx hby at_114 rfl (v := (1 : Int32)) (by decide) ?_
    refine Go.goto (pc' := 119) X30 hx hby at_115 (by decide) (by decide) ?_
    exact Go.retZ X30 hx hby hlk hret (by simp) at_119 (by decide) (by decide) ⟨rfl, (Fr.app (Fr.app (Fr.nil _) N1) N2)⟩
  ·
    refine Go.icmp (pc' := 85) (pn := 81) X18 hx hby at_78 (by decide) (by decide) rfl (fun (c33 : (own_pl kb nb) ≤ (own_pl ka na)) => ?_) (fun (c33 : ¬ ((own_pl kb nb) ≤ (own_pl ka na))) => ?_)
    ·
      refine Go.iload (pc' := 87) X18 hx hby at_85 rfl rfl ?_
      refine Go.iload (pc' := 89) X18 hx hby at_87 rfl rfl ?_
      refine Go.icmp (pc' := 96) (pn := 92) X18 hx hby at_89 (by decide) (by decide) rfl (fun (c34 : (own_pl ka na) ≤ (own_pl kb nb)) => ?_) (fun (c34 : ¬ ((own_pl ka na) ≤ (own_pl kb nb))) => ?_)
      ·
        refine Go.iconst (pc' := 97) X18 hx hby at_96 rfl (v := (0 : Int32)) (by decide) ?_
        exact j21 _ (by (have z0_ : (0 : Int32).toInt = 0 := by decide); simp only [own_w]; (repeat' split) <;> first | rfl | contradiction | (exfalso; simp only [Int32.lt_iff_toInt_lt, Int32.le_iff_toInt_le, z0_] at *; omega))
      ·
        refine Go.iconst (pc' := 93) X18 hx hby at_92 rfl (v := (1 : Int32)) (by decide) ?_
        refine Go.goto (pc' := 97) X18 hx hby at_93 (by decide) (by decide) ?_
        exact j21 _ (by (have z0_ : (0 : Int32).toInt = 0 := by decide); simp only [own_w]; (repeat' split) <;> first | rfl | contradiction | (exfalso; simp only [Int32.lt_iff_toInt_lt, Int32.le_iff_toInt_le, z0_] at *; omega))
    ·
      refine Go.iconst (pc' := 82) X18 hx hby at_81 rfl (v := (-1 : Int32)) (by decide) ?_
      refine Go.goto (pc' := 97) X18 hx hby at_82 (by decide) (by decide) ?_
      exact j21 _ (by (have z0_ : (0 : Int32).toInt = 0 := by decide); simp only [own_w]; (repeat' split) <;> first | rfl | contradiction | (exfalso; simp only [Int32.lt_iff_toInt_lt, Int32.le_iff_toInt_le, z0_] at *; omega))
set_option maxRecDepth 65536 in
set_option maxHeartbeats 40000000 in
theorem comes_1 {Post : Tables → Env → Array Value → State → Outcome → State → Prop} (hpost : ∀ tb e args s v u, (limb_1_1.after args s (.returned v) u = true ∧ limb_1_2.after args s (.returned v) u = true ∧ True) → FrameEnd s (.returned v) u (Jvm.fieldLocs frame_1_writes args s ++ Jvm.arrayLocs frame_1_arrays args s ++ Jvm.staticLocs frame_1_statics s) 16 128 → Post tb e args s (.returned v) u) :
    ArmFor flags0 classFile x code maxLocals ret World_1 tables_1 room_1 Calls_1 rest_1 Pre_1 Post := by
  intro l hfl _ _ p e ha hc hk s m args below hf hA hF happ hP
  obtain ⟨hcalls, hrest, hpre⟩ := hP
  obtain ⟨-, -, -, hnamed, -, -, -, hat⟩ := (Spec.applies_iff hf).mp happ
  obtain ⟨hg, hn⟩ := and_e (Cond.before_iff.mp (show (Jvm.Cond.and given_1 narrow_1).before args s = true from hpre))
  obtain ⟨h1, g0⟩ := and_e hg
  obtain ⟨w0, w1, w2, w3, rfl⟩ : ∃ w0 w1 w2 w3 : Value, args = #[w0, w1, w2, w3] := by
    have hs : args.size = 4 := by simpa [Cond.value, given_1] using h1
    obtain ⟨L⟩ := args
    match L, hs with
    | [w0, w1, w2, w3], _ => exact ⟨w0, w1, w2, w3, rfl⟩
  have hw := fun d (hd : d ∈ tables_1) => atoms_spec (ws := Jvm.Cond.code x code maxLocals ret :: tables_1) hat d (List.mem_cons_of_mem _ hd)
  have hfit : Fit s := fun {y c} hc i hi => by
    obtain ⟨ha, rfl⟩ := Array.getElem?_eq_some_iff.mp hc
    have q := List.all_eq_true.mp ((Array.all_eq_true_iff_forall_mem.mp hF) _ (Array.getElem_mem ha)) i (List.mem_range.mpr hi)
    simpa [Array.getElem?_eq_getElem hi] using q
  obtain ⟨k0, g1⟩ := and_e g0
  obtain ⟨i0, e0⟩ := is_v k0
  obtain rfl : w0 = (.int i0) := Option.some.inj e0
  obtain ⟨k1, g2⟩ := and_e g1
  obtain ⟨i1, e1⟩ := is_v k1
  obtain rfl : w1 = (.int i1) := Option.some.inj e1
  obtain ⟨k2, g3⟩ := and_e g2
  obtain ⟨i2, e2⟩ := is_v k2
  obtain rfl : w2 = (.int i2) := Option.some.inj e2
  obtain ⟨i3, e3⟩ := is_v g3
  obtain rfl : w3 = (.int i3) := Option.some.inj e3
  obtain ⟨n, o, h1, h2, h3, _, L, rfl, ⟨rfl, N⟩, hq⟩ := rm0 l s _ hw i0 i1 i2 i3 s.heap p e ha hc hk s m _ below hf ((Spec.applies_iff_loose hf).mp happ).1 ⟨rfl, State.Warmed39.refl s, rfl⟩ trivial
  refine ⟨n, _, h1, h2, h3, hpost _ _ _ _ _ _ ⟨Cond.after_iff.mpr rfl, Cond.after_iff.mpr (eq_i res_at (Term.int_eval (1)) rfl), trivial⟩ ⟨hq.1, hq.2.1, (hq.2.2.sift fun y hy => Or.inr (N y hy)).mono (by decide) (by decide)⟩⟩
theorem main_1_1 : Claimed_1_1 := comes_1 fun _ _ _ _ _ _ h hF => ⟨h.1, hF⟩
theorem main_1_2 : Claimed_1_2 := comes_1 fun _ _ _ _ _ _ h hF => ⟨h.2.1, hF⟩
end Jvm.Pilot.@@N@@
namespace Jvm.Pilot.@@N@@
open Jvm Jvm.ClassFile Sem Op Lib Jvm.Free Jvm.Stand Jvm.Pilot.@@N@@.Jvm.D
/-! MADE BY PROGRAM (witnessworld.py) out of the Statement's table words and the real class files: 15 classes; the members and pool entries that the words name. The judged class is class 1, her method 4. -/
namespace start1
open Jvm.ClassFile
def u (s : String) : CpInfo := .utf8 (stringToUtf16 s)
/-- a pool by its gaps: so many unusable entries, then the entry; so many at the end -/
def gap : Nat → List CpInfo → List CpInfo
  | 0, r => r
  | n + 1, r => .unusable :: gap n r
def poolList (es : List (Nat × CpInfo)) (last : Nat) : List CpInfo := es.foldr (fun e r => gap e.1 (e.2 :: r)) (gap last [])
def pool (es : List (Nat × CpInfo)) (last : Nat) : Array CpInfo := ⟨poolList es last⟩
def fileOf (pool : Array CpInfo) (this : Nat) (attrs : Array Attribute := #[]) (ms : Array MethodInfo := #[]) (fl : Nat := 33) (sup : Nat := 0) (ifs : Array Nat := #[]) (fds : Array FieldInfo := #[]) : ClassFile where
  minorVersion := 0
  majorVersion := 65
  constantPool := pool
  accessFlags := fl
  thisClass := this
  superClass := sup
  interfaces := ifs
  fields := fds
  methods := ms
  attributes := attrs
def plain (name : String) (sup : Option ClassId) : Class where
  name := name
  kind := .ordinary
  loader := none
  accessFlags := 33
  super := sup
  interfaces := #[]
  cf := none
  fields := #[]
  methods := #[]
  instanceTypes := #[]
  staticTypes := #[]
  resolved := #[]
  callSites := []
  init := .initialized
  statics := none
  mirror := none

def pool0 : Array CpInfo := pool [(5, u "<init>"), (0, u "()V"), (1, .class_ 10), (1, u "java/lang/Object")] 113

def k0c0 : Code := { maxStack := 0, maxLocals := 1, code := object_method_1_code, exceptionTable := #[], attributes := #[] }
def k0m0 : Method := { name := "<init>", desc := "()V", sig := { parameters := [], returnType := none }, accessFlags := 1, code := some k0c0 }
/-- java/lang/Object -/
def k0 : Class := { plain "java/lang/Object" none with
  accessFlags := 33
  interfaces := #[]
  cf := some (fileOf pool0 8 #[] #[{ accessFlags := 1, nameIndex := 5, descriptorIndex := 6, attributes := #[] }] 33 0 #[] #[])
  fields := #[]
  methods := #[k0m0]
  instanceTypes := #[]
  staticTypes := #[]
  resolved := Array.replicate 124 none
  statics := none }

def pool1 : Array CpInfo := pool [(2, .class_ 4), (1, u "java/lang/Object"), (0, u "<init>"), (0, u "()V"), (0, .class_ 8), (0, u "com/example/salient/salient/combat/odds/Odds"), (0, .methodref 7 10), (0, .nameAndType 5 11), (0, u "(II)V"), (0, .integer 2147483647), (0, .integer 999999999), (0, .methodref 15 16), (0, .class_ 17), (0, .nameAndType 18 19), (0, u "com/example/salient/salient/combat/odds/OddsCompareToPinLaw"), (0, u "make"), (0, u "(II)Lcom/example/salient/salient/combat/odds/Odds;"), (0, .methodref 15 21), (0, .nameAndType 22 23), (0, u "place"), (0, u "(II)I"), (0, .methodref 7 25), (0, .nameAndType 26 27), (0, u "compareTo"), (0, u "(Lcom/example/salient/salient/combat/odds/Odds;)I"), (0, .methodref 15 29), (0, .nameAndType 30 31), (0, u "sign"), (0, u "(I)I"), (3, u "law"), (0, u "(IIII)Z")] 2

def k1m0 : Method := { name := "<init>", desc := "()V", sig := { parameters := [], returnType := none }, accessFlags := 1, code := none }
def k1c1 : Code := { maxStack := 4, maxLocals := 3, code := method_2_code, exceptionTable := #[], attributes := #[] }
def k1m1 : Method := { name := "make", desc := "(II)Lcom/example/salient/salient/combat/odds/Odds;", sig := { parameters := [.int, .int], returnType := some (.object "com/example/salient/salient/combat/odds/Odds") }, accessFlags := 10, code := some k1c1 }
def k1c2 : Code := { maxStack := 2, maxLocals := 3, code := method_3_code, exceptionTable := #[], attributes := #[] }
def k1m2 : Method := { name := "place", desc := "(II)I", sig := { parameters := [.int, .int], returnType := some .int }, accessFlags := 10, code := some k1c2 }
def k1c3 : Code := { maxStack := 1, maxLocals := 1, code := method_4_code, exceptionTable := #[], attributes := #[] }
def k1m3 : Method := { name := "sign", desc := "(I)I", sig := { parameters := [.int], returnType := some .int }, accessFlags := 10, code := some k1c3 }
def k1c4 : Code := { maxStack := 2, maxLocals := 13, code := code, exceptionTable := #[], attributes := #[] }
def k1m4 : Method := { name := "law", desc := "(IIII)Z", sig := { parameters := [.int, .int, .int, .int], returnType := some .boolean }, accessFlags := 9, code := some k1c4 }
/-- com/example/salient/salient/combat/odds/OddsCompareToPinLaw -/
def k1 : Class := { plain "com/example/salient/salient/combat/odds/OddsCompareToPinLaw" (some 0) with
  accessFlags := 49
  interfaces := #[]
  cf := some (fileOf pool1 15 #[] #[{ accessFlags := 1, nameIndex := 5, descriptorIndex := 6, attributes := #[] }, { accessFlags := 10, nameIndex := 18, descriptorIndex := 19, attributes := #[] }, { accessFlags := 10, nameIndex := 22, descriptorIndex := 23, attributes := #[] }, { accessFlags := 10, nameIndex := 30, descriptorIndex := 31, attributes := #[] }, { accessFlags := 9, nameIndex := 35, descriptorIndex := 36, attributes := #[] }] 49 2 #[] #[])
  fields := #[]
  methods := #[k1m0, k1m1, k1m2, k1m3, k1m4]
  instanceTypes := #[]
  staticTypes := #[]
  resolved := Array.replicate 39 none
  statics := none }

def pool2 : Array CpInfo := pool [(1, .methodref 2 3), (0, .class_ 4), (0, .nameAndType 5 6), (0, u "java/lang/Object"), (0, u "<init>"), (0, u "()V"), (0, .class_ 8), (0, u "java/lang/Record")] 13

def k2c0 : Code := { maxStack := 1, maxLocals := 1, code := jdk_30_method_1_code, exceptionTable := #[], attributes := #[] }
def k2m0 : Method := { name := "<init>", desc := "()V", sig := { parameters := [], returnType := none }, accessFlags := 4, code := some k2c0 }
/-- java/lang/Record -/
def k2 : Class := { plain "java/lang/Record" (some 0) with
  accessFlags := 1057
  interfaces := #[]
  cf := some (fileOf pool2 7 #[] #[{ accessFlags := 4, nameIndex := 5, descriptorIndex := 6, attributes := #[] }] 1057 2 #[] #[])
  fields := #[]
  methods := #[k2m0]
  instanceTypes := #[]
  staticTypes := #[]
  resolved := Array.replicate 22 none
  statics := none }

def pool3 : Array CpInfo := pool [(1, .class_ 2), (0, u "java/lang/Comparable"), (0, .class_ 4), (0, u "java/lang/Object")] 7

/-- java/lang/Comparable -/
def k3 : Class := { plain "java/lang/Comparable" (some 0) with
  accessFlags := 1537
  interfaces := #[]
  cf := some (fileOf pool3 1 #[] #[] 1537 3 #[] #[])
  fields := #[]
  methods := #[]
  instanceTypes := #[]
  staticTypes := #[]
  resolved := Array.replicate 12 none
  statics := none }

def pool4 : Array CpInfo := pool [(1, .methodref 2 3), (0, .class_ 4), (0, .nameAndType 5 6), (0, u "java/lang/Record"), (0, u "<init>"), (0, u "()V"), (0, .class_ 8), (0, u "com/example/salient/salient/combat/odds/Odds"), (0, .integer 999999999), (9, .fieldref 7 20), (0, .nameAndType 21 22), (0, u "attack"), (0, u "I"), (0, .fieldref 7 24), (0, .nameAndType 25 22), (0, u "defense"), (26, u "(II)V"), (6, u "TWO"), (0, u "Ljava/math/BigDecimal;"), (8, u "compareTo"), (16, u "THREE"), (30, .methodref 118 119), (0, .class_ 120), (0, .nameAndType 121 122), (0, u "java/lang/Long"), (0, u "compare"), (0, u "(JJ)I"), (30, u "(Lcom/example/salient/salient/combat/odds/Odds;)I"), (11, .class_ 166), (0, u "java/lang/Comparable"), (0, u "MAX_TERM")] 50

def k4c0 : Code := { maxStack := 4, maxLocals := 5, code := prog_12_method_1_code, exceptionTable := #[], attributes := #[] }
def k4m0 : Method := { name := "<init>", desc := "(II)V", sig := { parameters := [.int, .int], returnType := none }, accessFlags := 1, code := some k4c0 }
def k4c1 : Code := { maxStack := 6, maxLocals := 2, code := prog_12_method_6_code, exceptionTable := #[], attributes := #[] }
def k4m1 : Method := { name := "compareTo", desc := "(Lcom/example/salient/salient/combat/odds/Odds;)I", sig := { parameters := [(.object "com/example/salient/salient/combat/odds/Odds")], returnType := some .int }, accessFlags := 1, code := some k4c1 }
/-- com/example/salient/salient/combat/odds/Odds -/
def k4 : Class := { plain "com/example/salient/salient/combat/odds/Odds" (some 2) with
  accessFlags := 49
  interfaces := #[3]
  cf := some (fileOf pool4 7 #[] #[{ accessFlags := 1, nameIndex := 5, descriptorIndex := 52, attributes := #[] }, { accessFlags := 1, nameIndex := 69, descriptorIndex := 153, attributes := #[] }] 49 2 #[165] #[{ accessFlags := 18, nameIndex := 21, descriptorIndex := 22, attributes := #[] }, { accessFlags := 18, nameIndex := 25, descriptorIndex := 22, attributes := #[] }, { accessFlags := 26, nameIndex := 167, descriptorIndex := 22, attributes := #[] }, { accessFlags := 26, nameIndex := 59, descriptorIndex := 60, attributes := #[] }, { accessFlags := 26, nameIndex := 86, descriptorIndex := 60, attributes := #[] }])
  fields := #[{ name := "attack", type := .int, accessFlags := 18, slot := 0, constantValue := 0 }, { name := "defense", type := .int, accessFlags := 18, slot := 1, constantValue := 0 }, { name := "MAX_TERM", type := .int, accessFlags := 26, slot := 0, constantValue := 0 }, { name := "TWO", type := (.object "java/math/BigDecimal"), accessFlags := 26, slot := 1, constantValue := 0 }, { name := "THREE", type := (.object "java/math/BigDecimal"), accessFlags := 26, slot := 2, constantValue := 0 }]
  methods := #[k4m0, k4m1]
  instanceTypes := #[.int, .int]
  staticTypes := #[.int, (.object "java/math/BigDecimal"), (.object "java/math/BigDecimal")]
  resolved := Array.replicate 218 none
  statics := none }

def pool5 : Array CpInfo := pool [(1, .class_ 2), (0, u "java/io/Serializable"), (0, .class_ 4), (0, u "java/lang/Object")] 2

/-- java/io/Serializable -/
def k5 : Class := { plain "java/io/Serializable" (some 0) with
  accessFlags := 1537
  interfaces := #[]
  cf := some (fileOf pool5 1 #[] #[] 1537 3 #[] #[])
  fields := #[]
  methods := #[]
  instanceTypes := #[]
  staticTypes := #[]
  resolved := Array.replicate 7 none
  statics := none }

def pool6 : Array CpInfo := pool [(2, .class_ 4), (1, u "java/lang/Object"), (0, u "<init>"), (0, u "()V"), (1, .class_ 10), (1, u "java/lang/Number"), (2, .class_ 14), (0, u "java/io/Serializable"), (0, u "serialVersionUID"), (0, u "J")] 20

def k6m0 : Method := { name := "<init>", desc := "()V", sig := { parameters := [], returnType := none }, accessFlags := 1, code := none }
/-- java/lang/Number -/
def k6 : Class := { plain "java/lang/Number" (some 0) with
  accessFlags := 1057
  interfaces := #[5]
  cf := some (fileOf pool6 8 #[] #[{ accessFlags := 1, nameIndex := 5, descriptorIndex := 6, attributes := #[] }] 1057 2 #[13] #[{ accessFlags := 26, nameIndex := 15, descriptorIndex := 16, attributes := #[] }])
  fields := #[{ name := "serialVersionUID", type := .long, accessFlags := 26, slot := 0, constantValue := 0 }]
  methods := #[k6m0]
  instanceTypes := #[]
  staticTypes := #[.long]
  resolved := Array.replicate 37 none
  statics := none }

def pool7 : Array CpInfo := pool [(1, .class_ 2), (0, u "java/lang/constant/Constable"), (0, .class_ 4), (0, u "java/lang/Object")] 6

/-- java/lang/constant/Constable -/
def k7 : Class := { plain "java/lang/constant/Constable" (some 0) with
  accessFlags := 1537
  interfaces := #[]
  cf := some (fileOf pool7 1 #[] #[] 1537 3 #[] #[])
  fields := #[]
  methods := #[]
  instanceTypes := #[]
  staticTypes := #[]
  resolved := Array.replicate 11 none
  statics := none }

def pool8 : Array CpInfo := pool [(1, .class_ 2), (0, u "java/lang/constant/ConstantDesc"), (0, .class_ 4), (0, u "java/lang/Object")] 32

/-- java/lang/constant/ConstantDesc -/
def k8 : Class := { plain "java/lang/constant/ConstantDesc" (some 0) with
  accessFlags := 1537
  interfaces := #[]
  cf := some (fileOf pool8 1 #[] #[] 1537 3 #[] #[])
  fields := #[]
  methods := #[]
  instanceTypes := #[]
  staticTypes := #[]
  resolved := Array.replicate 37 none
  statics := none }

def pool9 : Array CpInfo := pool [(1, .class_ 2), (0, u "java/lang/Long"), (232, .class_ 237), (1, u "java/lang/Long$LongCache"), (33, .class_ 272), (0, u "java/lang/Number"), (2, u "value"), (0, u "J"), (27, u "compare"), (0, u "(JJ)I"), (55, u "TYPE"), (0, u "Ljava/lang/Class;"), (0, .class_ 364), (0, u "java/lang/Comparable"), (0, .class_ 366), (0, u "java/lang/constant/Constable"), (0, .class_ 368), (0, u "java/lang/constant/ConstantDesc"), (0, u "MIN_VALUE"), (1, u "MAX_VALUE"), (4, u "SIZE"), (0, u "I"), (1, u "BYTES"), (1, u "serialVersionUID")] 142

def k9c0 : Code := { maxStack := 4, maxLocals := 4, code := jdk_35_method_42_code, exceptionTable := #[], attributes := #[] }
def k9m0 : Method := { name := "compare", desc := "(JJ)I", sig := { parameters := [.long, .long], returnType := some .int }, accessFlags := 9, code := some k9c0 }
/-- java/lang/Long -/
def k9 : Class := { plain "java/lang/Long" (some 6) with
  accessFlags := 49
  interfaces := #[3, 7, 8]
  cf := some (fileOf pool9 1 #[.nestMembers #[235]] #[{ accessFlags := 9, nameIndex := 304, descriptorIndex := 305, attributes := #[] }] 49 271 #[363, 365, 367] #[{ accessFlags := 25, nameIndex := 369, descriptorIndex := 276, attributes := #[] }, { accessFlags := 25, nameIndex := 371, descriptorIndex := 276, attributes := #[] }, { accessFlags := 25, nameIndex := 361, descriptorIndex := 362, attributes := #[] }, { accessFlags := 18, nameIndex := 275, descriptorIndex := 276, attributes := #[] }, { accessFlags := 25, nameIndex := 376, descriptorIndex := 377, attributes := #[] }, { accessFlags := 25, nameIndex := 379, descriptorIndex := 377, attributes := #[] }, { accessFlags := 26, nameIndex := 381, descriptorIndex := 276, attributes := #[] }])
  fields := #[{ name := "MIN_VALUE", type := .long, accessFlags := 25, slot := 0, constantValue := 0 }, { name := "MAX_VALUE", type := .long, accessFlags := 25, slot := 1, constantValue := 0 }, { name := "TYPE", type := (.object "java/lang/Class"), accessFlags := 25, slot := 2, constantValue := 0 }, { name := "value", type := .long, accessFlags := 18, slot := 0, constantValue := 0 }, { name := "SIZE", type := .int, accessFlags := 25, slot := 3, constantValue := 0 }, { name := "BYTES", type := .int, accessFlags := 25, slot := 4, constantValue := 0 }, { name := "serialVersionUID", type := .long, accessFlags := 26, slot := 5, constantValue := 0 }]
  methods := #[k9m0]
  instanceTypes := #[.long]
  staticTypes := #[.long, .long, (.object "java/lang/Class"), .int, .int, .long]
  resolved := Array.replicate 524 none
  statics := none }

def pool10 : Array CpInfo := pool [(1, u "java/lang/Cloneable"), (0, .class_ 1), (0, u "java/lang/Object"), (0, .class_ 3)] 3

/-- java/lang/Cloneable -/
def k10 : Class := { plain "java/lang/Cloneable" (some 0) with
  accessFlags := 1537
  interfaces := #[]
  cf := some (fileOf pool10 2 #[] #[] 1537 4 #[] #[])
  fields := #[]
  methods := #[]
  instanceTypes := #[]
  staticTypes := #[]
  resolved := Array.replicate 8 none
  statics := none }

/-- the primitive byte -/
def k11 : Class := { plain "byte" none with kind := .primitive 'B', accessFlags := 0x411 }
/-- [B -/
def k12 : Class := { plain "[B" (some 0) with kind := .array 11 .byte, interfaces := #[10, 5], accessFlags := 1041 }

/-- the primitive int -/
def k13 : Class := { plain "int" none with kind := .primitive 'I', accessFlags := 0x411 }
/-- [I -/
def k14 : Class := { plain "[I" (some 0) with kind := .array 13 .int, interfaces := #[10, 5], accessFlags := 1041 }

def heap : Heap := #[]
def classes : Array Class := #[k0, k1, k2, k3, k4, k5, k6, k7, k8, k9, k10, k11, k12, k13, k14]
def interned : List (Array UInt16 × Addr) := []
def slotsUsed : Nat := 0
def theMethod : MethodId := ⟨1, 4⟩
def args0 : Array Value := #[.int 5, .int 3, .int 2, .int 7]
def aboutOver (below : List Frame) : State where
  vm := { classes := classes, interned := interned.toArray }
  heap := heap
  slotsUsed := slotsUsed
  threads := #[{ frames := .invoking theMethod args0 :: below }]
def below0 : List Frame := [.native { method := ⟨0, 0⟩, args := #[] }]
def about1 : State := aboutOver below0
def p0 : Program := .bare "" "" ""
def e0 : Env := launch0.env 0 0 0
theorem w_frames : about1.frames = Frame.invoking theMethod args0 :: below0 := rfl
set_option maxRecDepth 65536 in
theorem w_args : argsFit about1.vm theMethod args0 = true := by decide +kernel
set_option maxRecDepth 65536 in
theorem w_heap : heapFits about1 = true := by decide +kernel
set_option maxRecDepth 65536 in
theorem w_runnable : about1.curStatus? = some .runnable := by decide +kernel
set_option maxRecDepth 65536 in
theorem w_alone : about1.alone = true := by decide +kernel
set_option maxRecDepth 65536 in
theorem w_named : about1.methodNamed? x = some theMethod := by decide +kernel
set_option maxRecDepth 65536 in
theorem w_hears : about1.hears theMethod below0 = true := by decide +kernel
set_option maxRecDepth 65536 in
theorem w_ripe : about1.ripe theMethod args0 below0 = true := by decide +kernel
theorem w_running : about1.status = .running := rfl
set_option maxRecDepth 65536 in
theorem w_room : about1.hasRoom e0.platform room_1 = true :=
  launch0.hasRoom_least _ room_1 (by decide +kernel) (by decide +kernel) (by decide +kernel) (by decide +kernel) (by decide +kernel) (by decide +kernel)
theorem allAtoms_all (ts : List Jvm.Cond) (a : Array Jvm.Value) (st : Jvm.State) : (allAtoms ts).before a st = ts.all (fun c => c.before a st) := by
  induction ts with
  | nil => rfl
  | cons c t ih =>
    show (Jvm.Cond.and c (allAtoms t)).before a st = _
    rw [Jvm.Cond.before_and, ih, List.all_cons]
def words1 : List Jvm.Cond := Jvm.Cond.code x code maxLocals ret :: tables_1
/-- a 'code' word, met by the world's own term for the bytes: nothing is compared byte by byte -/
theorem code_word {y : MethodName} {bytes : ByteArray} {mx : Nat} {rt : Option FieldType} {a : Array Value} {s : State} {m : MethodId} {meth : Method} {c : Code} (h1 : s.methodNamed? y = some m) (h2 : s.vm.method? m = some meth) (h3 : meth.code = some c) (h4 : c.code = bytes)
    (h5 : (c.maxLocals == mx && c.exceptionTable.isEmpty && decide (c.maxStack ≤ mostOperands) && decide (meth.sig.returnType = rt) && !meth.locks && decide (parseMethodDescriptor y.desc = some meth.sig)) = true) : (Jvm.Cond.code y bytes mx rt).before a s = true := by
  simp only [Bool.and_eq_true, beq_iff_eq, Bool.not_eq_true', decide_eq_true_eq] at h5
  obtain ⟨⟨⟨⟨⟨g1, g2⟩, g3⟩, g4⟩, g5⟩, g6⟩ := h5
  simp [Cond.before, Cond.holds, Cond.value, h1, h2, h3, h4, g1, g2, g3, g4, g5, g6]
def isCode : Jvm.Cond → Bool
  | .code _ _ _ _ => true
  | _ => false
theorem all_split {L : List Jvm.Cond} {P : Jvm.Cond → Bool} (h1 : L.all (fun c => isCode c || P c) = true) (h2 : ∀ c ∈ L.filter isCode, P c = true) : L.all P = true := by
  refine List.all_eq_true.mpr fun c hc => ?_
  have h := List.all_eq_true.mp h1 c hc
  rcases Bool.eq_false_or_eq_true (isCode c) with hi | hi
  · exact h2 c (List.mem_filter.mpr ⟨hc, hi⟩)
  · simpa [hi] using h
set_option maxRecDepth 65536 in
theorem w_c0 : (Jvm.Cond.code x code maxLocals ret).before args0 about1 = true := code_word (m := ⟨1, 4⟩) (meth := k1m4) (c := k1c4) (by decide +kernel) rfl rfl rfl (by decide +kernel)
set_option maxRecDepth 65536 in
theorem w_c1 : (Jvm.Cond.code ({ cls := "com/example/salient/salient/combat/odds/OddsCompareToPinLaw", name := "make", desc := "(II)Lcom/example/salient/salient/combat/odds/Odds;" } : Jvm.MethodName) method_2_code (3 : Nat) (Option.some (Jvm.ClassFile.FieldType.object "com/example/salient/salient/combat/odds/Odds"))).before args0 about1 = true := code_word (m := ⟨1, 1⟩) (meth := k1m1) (c := k1c1) (by decide +kernel) rfl rfl rfl (by decide +kernel)
set_option maxRecDepth 65536 in
theorem w_c2 : (Jvm.Cond.code ({ cls := "com/example/salient/salient/combat/odds/Odds", name := "<init>", desc := "(II)V" } : Jvm.MethodName) prog_12_method_1_code (5 : Nat) (Option.none : Option Jvm.ClassFile.FieldType)).before args0 about1 = true := code_word (m := ⟨4, 0⟩) (meth := k4m0) (c := k4c0) (by decide +kernel) rfl rfl rfl (by decide +kernel)
set_option maxRecDepth 65536 in
theorem w_c3 : (Jvm.Cond.code ({ cls := "java/lang/Record", name := "<init>", desc := "()V" } : Jvm.MethodName) jdk_30_method_1_code (1 : Nat) (Option.none : Option Jvm.ClassFile.FieldType)).before args0 about1 = true := code_word (m := ⟨2, 0⟩) (meth := k2m0) (c := k2c0) (by decide +kernel) rfl rfl rfl (by decide +kernel)
set_option maxRecDepth 65536 in
theorem w_c4 : (Jvm.Cond.code ({ cls := "java/lang/Object", name := "<init>", desc := "()V" } : Jvm.MethodName) object_method_1_code (1 : Nat) (Option.none : Option Jvm.ClassFile.FieldType)).before args0 about1 = true := code_word (m := ⟨0, 0⟩) (meth := k0m0) (c := k0c0) (by decide +kernel) rfl rfl rfl (by decide +kernel)
set_option maxRecDepth 65536 in
theorem w_c5 : (Jvm.Cond.code ({ cls := "com/example/salient/salient/combat/odds/OddsCompareToPinLaw", name := "place", desc := "(II)I" } : Jvm.MethodName) method_3_code (3 : Nat) (Option.some Jvm.ClassFile.FieldType.int)).before args0 about1 = true := code_word (m := ⟨1, 2⟩) (meth := k1m2) (c := k1c2) (by decide +kernel) rfl rfl rfl (by decide +kernel)
set_option maxRecDepth 65536 in
theorem w_c6 : (Jvm.Cond.code ({ cls := "com/example/salient/salient/combat/odds/Odds", name := "compareTo", desc := "(Lcom/example/salient/salient/combat/odds/Odds;)I" } : Jvm.MethodName) prog_12_method_6_code (2 : Nat) (Option.some Jvm.ClassFile.FieldType.int)).before args0 about1 = true := code_word (m := ⟨4, 1⟩) (meth := k4m1) (c := k4c1) (by decide +kernel) rfl rfl rfl (by decide +kernel)
set_option maxRecDepth 65536 in
theorem w_c7 : (Jvm.Cond.code ({ cls := "java/lang/Long", name := "compare", desc := "(JJ)I" } : Jvm.MethodName) jdk_35_method_42_code (4 : Nat) (Option.some Jvm.ClassFile.FieldType.int)).before args0 about1 = true := code_word (m := ⟨9, 0⟩) (meth := k9m0) (c := k9c0) (by decide +kernel) rfl rfl rfl (by decide +kernel)
set_option maxRecDepth 65536 in
theorem w_c8 : (Jvm.Cond.code ({ cls := "com/example/salient/salient/combat/odds/OddsCompareToPinLaw", name := "sign", desc := "(I)I" } : Jvm.MethodName) method_4_code (1 : Nat) (Option.some Jvm.ClassFile.FieldType.int)).before args0 about1 = true := code_word (m := ⟨1, 3⟩) (meth := k1m3) (c := k1c3) (by decide +kernel) rfl rfl rfl (by decide +kernel)
def codes1 : List Jvm.Cond := [Jvm.Cond.code x code maxLocals ret, Jvm.Cond.code ({ cls := "com/example/salient/salient/combat/odds/OddsCompareToPinLaw", name := "make", desc := "(II)Lcom/example/salient/salient/combat/odds/Odds;" } : Jvm.MethodName) method_2_code (3 : Nat) (Option.some (Jvm.ClassFile.FieldType.object "com/example/salient/salient/combat/odds/Odds")), Jvm.Cond.code ({ cls := "com/example/salient/salient/combat/odds/Odds", name := "<init>", desc := "(II)V" } : Jvm.MethodName) prog_12_method_1_code (5 : Nat) (Option.none : Option Jvm.ClassFile.FieldType), Jvm.Cond.code ({ cls := "java/lang/Record", name := "<init>", desc := "()V" } : Jvm.MethodName) jdk_30_method_1_code (1 : Nat) (Option.none : Option Jvm.ClassFile.FieldType), Jvm.Cond.code ({ cls := "java/lang/Object", name := "<init>", desc := "()V" } : Jvm.MethodName) object_method_1_code (1 : Nat) (Option.none : Option Jvm.ClassFile.FieldType), Jvm.Cond.code ({ cls := "com/example/salient/salient/combat/odds/OddsCompareToPinLaw", name := "place", desc := "(II)I" } : Jvm.MethodName) method_3_code (3 : Nat) (Option.some Jvm.ClassFile.FieldType.int), Jvm.Cond.code ({ cls := "com/example/salient/salient/combat/odds/Odds", name := "compareTo", desc := "(Lcom/example/salient/salient/combat/odds/Odds;)I" } : Jvm.MethodName) prog_12_method_6_code (2 : Nat) (Option.some Jvm.ClassFile.FieldType.int), Jvm.Cond.code ({ cls := "java/lang/Long", name := "compare", desc := "(JJ)I" } : Jvm.MethodName) jdk_35_method_42_code (4 : Nat) (Option.some Jvm.ClassFile.FieldType.int), Jvm.Cond.code ({ cls := "com/example/salient/salient/combat/odds/OddsCompareToPinLaw", name := "sign", desc := "(I)I" } : Jvm.MethodName) method_4_code (1 : Nat) (Option.some Jvm.ClassFile.FieldType.int)]
set_option maxRecDepth 65536 in
theorem codes_eq : words1.filter isCode = codes1 := rfl
theorem w_codes : ∀ c ∈ words1.filter isCode, c.before args0 about1 = true := by
  rw [codes_eq]
  intro c hc
  simp only [codes1, List.mem_cons, List.not_mem_nil, or_false] at hc
  rcases hc with rfl | rfl | rfl | rfl | rfl | rfl | rfl | rfl | rfl
  · exact w_c0
  · exact w_c1
  · exact w_c2
  · exact w_c3
  · exact w_c4
  · exact w_c5
  · exact w_c6
  · exact w_c7
  · exact w_c8
set_option maxRecDepth 65536 in
theorem w_t1 : (words1.take 24).all (fun c => isCode c || c.before args0 about1) = true := by decide +kernel
set_option maxRecDepth 65536 in
theorem w_t2 : (words1.drop 24).all (fun c => isCode c || c.before args0 about1) = true := by decide +kernel
theorem w_tables : (allAtoms (Jvm.Cond.code x code maxLocals ret :: tables_1)).before args0 about1 = true := by
  rw [allAtoms_all]
  show words1.all (fun c => c.before args0 about1) = true
  refine all_split ?_ w_codes
  rw [← List.take_append_drop 24 words1, List.all_append, w_t1, w_t2]
  rfl
set_option maxRecDepth 65536 in
theorem w_case : (Jvm.Cond.and given_1 narrow_1).before args0 about1 = true := by decide +kernel
theorem w_applies : (headSpec (Jvm.Cond.code x code maxLocals ret :: tables_1) room_1).applies x e0.platform about1 = true :=
  (Spec.applies_iff w_frames).mpr ⟨w_running, w_runnable, w_alone, w_named, w_hears, w_ripe, w_room, w_tables⟩
theorem atStart : AtStart classFile x code maxLocals ret World_1 tables_1 room_1 Calls_1 rest_1 Pre_1 launch0 p0 e0 about1 theMethod args0 below0 :=
  ⟨lists_1, trivial, launch0.admits_env _ _ _, launch0.least_env, fairChoices_fair.cas, fairChoices_fair.clock, w_frames, w_args, w_heap, w_applies, trivial, trivial, w_case⟩
end start1
theorem witness_1 : WitnessClaimed_1 := ⟨start1.p0, start1.e0, start1.about1, start1.theMethod, start1.args0, start1.below0, start1.atStart⟩
end Jvm.Pilot.@@N@@

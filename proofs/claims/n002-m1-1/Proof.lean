import JvmDerived
import JvmDerived.Pilot.@@N@@Statement
import JvmDerived.Pilot.@@N@@Code
set_option linter.unusedVariables false
set_option linter.unusedSimpArgs false
namespace Jvm.OwnGo
open Jvm Jvm.ClassFile Sem Op Lib Jvm.Free Jvm.Stand Jvm.LawKit Jvm.RoadKit Bundle
/-- from A the invocation ends and returns what Q takes; what was written lies at n0 or above -/
def Go (p : Program) (e : Env) (below : List Frame) (s : State) (n0 k n : Nat) (Q : Option Value → Heap → Prop) (A : State) : Prop :=
  ∃ t o, Steps p.tables e below A t ∧ t.status = .running ∧ Ended t below o ∧ ∃ v L, o = .returned v ∧ (Q v t.heap ∧ Fr n0 L) ∧ FrameEnd s o t L k n
/-- what stays as it is through a walk -/
def Ctx (p : Program) (s : State) (m : MethodId) (meth : Method) (c : Code) (Z : State) (a0 : Array Value) (ws : List Jvm.Cond) (own nm : String) (bytes : ByteArray) (ml : Nat) (ret : Option FieldType) : Prop :=
  p.tables.exec = Jvm.exec ∧ Z.Warmed39 s.vm ∧ (∀ d ∈ ws, d.before a0 Z = true) ∧ s.vm.findClass own = some m.cls ∧ meth.name = nm ∧ c.code = bytes ∧ c.maxLocals = ml ∧ meth.sig.returnType = ret ∧ meth.locks = false
/-- where a walk stands -/
def St (p : Program) (l : Launch) (e : Env) (R : Room) (s : State) (m : MethodId) (args : Array Value) (below : List Frame) (meth : Method) (c : Code) (n0 : Nat) (T : State) (h : Heap) (cells slots : Nat) : Prop :=
  T.heap = h ∧ n0 ≤ s.heap.size ∧ ∃ locs, Fr n0 locs ∧ Stand p l e R s m args below meth c T locs cells slots
/-- an array: its elements, one by one -/
def AR (Z : State) (h : Heap) (a : Addr) (ty : FieldType) (vs : List Value) : Prop := ∃ c : Cell, Arr Z h a c ty ∧ c.slots = vs.toArray ∧ vs.length < 2 ^ 31
/-- a method's contract at one heap -/
def Con (l : Launch) (Z : State) (y : MethodName) (bytes : ByteArray) (ml : Nat) (ret : Option FieldType) (wx : List Jvm.Cond) (rm : Room) (n0 : Nat) (as : Array Value) (h0 : Heap) (Q : Option Value → Heap → Prop) : Prop :=
  MetFree l y (head1 (Jvm.Cond.code y bytes ml ret :: wx) rm) (fun a U => a = as ∧ Z.Warmed39 U.vm ∧ U.heap = h0) (fun _ _ _ _ _ => True) (fun _ U o U' => ∃ v L, o = .returned v ∧ (Q v U'.heap ∧ Fr n0 L) ∧ FrameEnd U o U' L rm.cells rm.slots)
section One
variable {p : Program} {l : Launch} {e : Env} {R : Room} {s : State} {m : MethodId} {args : Array Value} {below : List Frame} {meth : Method} {c : Code} {T : State} {h h' : Heap} {n0 cells slots k n : Nat} {Q : Option Value → Heap → Prop} {A B Z : State} {a0 : Array Value} {ws : List Jvm.Cond} {own nm : String} {bytes : ByteArray} {ml pc : Nat} {ret : Option FieldType} {Ls : Array Slot} {rest stk : List Value}
def ius (x y : Int32) : Int32 := (x.toUInt32 >>> (y &&& 31).toUInt32).toInt32
def lus (x : Int64) (y : Int32) : Int64 := (x.toUInt64 >>> (y &&& 0x3f).toInt64.toUInt64).toInt64
theorem tm0 (x d : Int) : x.tmod d = 0 ↔ x % d = 0 := ⟨fun h => Int.emod_eq_zero_of_dvd (Int.dvd_of_tmod_eq_zero h), fun h => Int.tmod_eq_zero_of_dvd (Int.dvd_of_emod_eq_zero h)⟩
theorem irr (x : Int32) : ¬ x < x := by rw [Int32.lt_iff_toInt_lt]; omega
theorem wd {ws : List Jvm.Cond} (i : Nat) {d : Jvm.Cond} (q : ws[i]? = some d) : d ∈ ws := List.mem_of_getElem? q
theorem Ctx.hx (C : Ctx p s m meth c Z a0 ws own nm bytes ml ret) : p.tables.exec = Jvm.exec := C.1
theorem Ctx.hZ (C : Ctx p s m meth c Z a0 ws own nm bytes ml ret) : Z.Warmed39 s.vm := C.2.1
theorem Ctx.w (C : Ctx p s m meth c Z a0 ws own nm bytes ml ret) {d : Jvm.Cond} (q : d ∈ ws) : d.before a0 Z = true := C.2.2.1 d q
theorem Ctx.hown (C : Ctx p s m meth c Z a0 ws own nm bytes ml ret) : s.vm.findClass own = some m.cls := C.2.2.2.1
theorem Ctx.hnm (C : Ctx p s m meth c Z a0 ws own nm bytes ml ret) : meth.name = nm := C.2.2.2.2.1
theorem Ctx.hby (C : Ctx p s m meth c Z a0 ws own nm bytes ml ret) : c.code = bytes := C.2.2.2.2.2.1
theorem Ctx.hml (C : Ctx p s m meth c Z a0 ws own nm bytes ml ret) : c.maxLocals = ml := C.2.2.2.2.2.2.1
theorem Ctx.hret (C : Ctx p s m meth c Z a0 ws own nm bytes ml ret) : meth.sig.returnType = ret := C.2.2.2.2.2.2.2.1
theorem Ctx.hlk (C : Ctx p s m meth c Z a0 ws own nm bytes ml ret) : meth.locks = false := C.2.2.2.2.2.2.2.2
theorem St.here (X : St p l e R s m args below meth c n0 T h cells slots) : At T m c below := by obtain ⟨-, -, _, -, X⟩ := X; exact X.here
theorem St.size (X : St p l e R s m args below meth c n0 T h cells slots) : n0 ≤ h.size := by
  obtain ⟨rfl, hz, _, -, X⟩ := X
  exact Nat.le_trans hz X.same.2.1
theorem St.mono (X : St p l e R s m args below meth c n0 T h cells slots) {cells' slots' : Nat} (h1 : cells ≤ cells') (h2 : slots ≤ slots') : St p l e R s m args below meth c n0 T h cells' slots' := by
  obtain ⟨e0, hz, locs, N, X⟩ := X
  exact ⟨e0, hz, locs, N, { X with same := X.same.mono h1 h2 }⟩
theorem Go.st (q : ∀ t, Steps p.tables e below B t → Steps p.tables e below A t) (g : Go p e below s n0 k n Q B) : Go p e below s n0 k n Q A := by
  obtain ⟨t, o, h1, r⟩ := g
  exact ⟨t, o, q t h1, r⟩
theorem Go.tr (q : Steps p.tables e below A B) (g : Go p e below s n0 k n Q B) : Go p e below s n0 k n Q A := Go.st (fun _ r => q.trans r) g
theorem Con.mk {y : MethodName} {wx : List Jvm.Cond} {rm : Room} {as : Array Value} {h0 : Heap} (hp : plainFor y = true) (hw : ∀ d ∈ ws, d.before a0 Z = true) (hz : n0 ≤ h0.size)
    (H : ∀ (p : Program) (e : Env) (s : State) (m : MethodId) (below : List Frame) (meth : Method) (c : Code) (T : State), Ctx p s m meth c Z a0 ws y.cls y.name bytes ml ret → St p l e rm s m as below meth c n0 T h0 0 0 → Go p e below s n0 rm.cells rm.slots Q (T.setTop (entryFrame m as ml))) : Con l Z y bytes ml ret wx rm n0 as h0 Q := by
  refine MetFree.of_bodySF hp hisR ?_
  intro p e s m args below meth c s₁ Bd hml hP hK
  obtain ⟨rfl, hZ, hh⟩ := hP
  have hE : s₁.heap = h0 := by rw [← hh, Bd.state]; rfl
  exact H p e s m below meth c s₁ ⟨Bd.exec, hZ, hw, findClass_of_methodNamed Bd.named, (name_of_methodNamed Bd.named Bd.method).1, Bd.bytes, hml, Bd.returns, BodyLoose.notSynchronized Bd⟩ ⟨hE, by rw [hh]; exact hz, [], Fr.nil n0, Stand.of_body Bd⟩
theorem Go.retAny (C : Ctx p s m meth c Z a0 ws own nm bytes ml ret) (X : St p l e R s m args below meth c n0 T h cells slots) {w : Value} {t : FieldType} {i : Instr} (hret : ret = some t) (hn : narrow t w = w)
    (hi : (i = .ireturn ∧ (t = .int ∨ t = .boolean ∨ t = .byte ∨ t = .char ∨ t = .short) ∧ ∃ z, w = .int z) ∨ (i = .lreturn ∧ t = .long ∧ ∃ z, w = .long z) ∨ (i = .dreturn ∧ t = .double ∧ ∃ z, w = .double z) ∨ (i = .freturn ∧ t = .float ∧ ∃ z, w = .float z) ∨ (i = .areturn ∧ t.isReference = true ∧ w.isRef = true))
    (hd : decode bytes pc = .ok (i, 1)) (hQ : Q (some w) h) (hk : cells ≤ k) (hs : slots ≤ n) : Go p e below s n0 k n Q (T.setTop (mkF m pc Ls (w :: rest))) := by
  obtain ⟨rfl, hz, locs, N, X⟩ := X
  obtain ⟨fs, hr, hrun, hended, hW, hsame⟩ := X.leave (v := some w) (fun q => by rw [C.hret, hret] at q; cases q) C.hlk
  exact ⟨_, _, retOut X C.hx (C.hret.trans hret) hn hi (hb C.hby hd) hr, hrun, hended, _, _, rfl, ⟨hQ, N⟩, ⟨_, rfl⟩, hW, hsame.mono hk hs⟩
theorem Go.retI (C : Ctx p s m meth c Z a0 ws own nm bytes ml (some .int)) (X : St p l e R s m args below meth c n0 T h cells slots) {z : Int32} (hd : decode bytes pc = .ok (.ireturn, 1)) (hQ : Q (some (.int z)) h) (hk : cells ≤ k) (hs : slots ≤ n) : Go p e below s n0 k n Q (T.setTop (mkF m pc Ls (.int z :: rest))) :=
  Go.retAny C X rfl rfl (Or.inl ⟨rfl, Or.inl rfl, _, rfl⟩) hd hQ hk hs
theorem Go.retZ (C : Ctx p s m meth c Z a0 ws own nm bytes ml (some .boolean)) (X : St p l e R s m args below meth c n0 T h cells slots) {z : Int32} (hz : z = 0 ∨ z = 1) (hd : decode bytes pc = .ok (.ireturn, 1)) (hQ : Q (some (.int z)) h) (hk : cells ≤ k) (hs : slots ≤ n) : Go p e below s n0 k n Q (T.setTop (mkF m pc Ls (.int z :: rest))) :=
  Go.retAny C X rfl (by rcases hz with rfl | rfl <;> rfl) (Or.inl ⟨rfl, Or.inr (Or.inl rfl), _, rfl⟩) hd hQ hk hs
theorem Go.retJ (C : Ctx p s m meth c Z a0 ws own nm bytes ml (some .long)) (X : St p l e R s m args below meth c n0 T h cells slots) {z : Int64} (hd : decode bytes pc = .ok (.lreturn, 1)) (hQ : Q (some (.long z)) h) (hk : cells ≤ k) (hs : slots ≤ n) : Go p e below s n0 k n Q (T.setTop (mkF m pc Ls (.long z :: rest))) :=
  Go.retAny C X rfl rfl (Or.inr (Or.inl ⟨rfl, rfl, _, rfl⟩)) hd hQ hk hs
theorem Go.retA {t : FieldType} (C : Ctx p s m meth c Z a0 ws own nm bytes ml (some t)) (X : St p l e R s m args below meth c n0 T h cells slots) {v : Value} (ht : t.isReference = true) (hv : v.isRef = true) (hd : decode bytes pc = .ok (.areturn, 1)) (hQ : Q (some v) h) (hk : cells ≤ k) (hs : slots ≤ n) : Go p e below s n0 k n Q (T.setTop (mkF m pc Ls (v :: rest))) :=
  Go.retAny C X rfl (by cases t <;> cases v <;> first | rfl | (simp [FieldType.isReference] at ht; done) | (simp [Value.isRef] at hv; done)) (Or.inr (Or.inr (Or.inr (Or.inr ⟨rfl, ht, hv⟩)))) hd hQ hk hs
theorem Go.retV (C : Ctx p s m meth c Z a0 ws own nm bytes ml none) (X : St p l e R s m args below meth c n0 T h cells slots) (hd : decode bytes pc = .ok (.return_, 1)) (hQ : Q none h) (hk : cells ≤ k) (hs : slots ≤ n) : Go p e below s n0 k n Q (T.setTop (mkF m pc Ls [])) := by
  obtain ⟨rfl, hz, locs, N, X⟩ := X
  obtain ⟨fs, hr, hrun, hended, hW, hsame⟩ := X.leave (v := none) (fun _ => rfl) C.hlk
  exact ⟨_, _, X.returnOut C.hx C.hret (hb C.hby hd) hr, hrun, hended, _, _, rfl, ⟨hQ, N⟩, ⟨_, rfl⟩, hW, hsame.mono hk hs⟩
theorem Go.if_eq (C : Ctx p s m meth c Z a0 ws own nm bytes ml ret) (X : St p l e R s m args below meth c n0 T h cells slots) {x : Int32} {o : Int} {pc' : Nat} (hd : decode bytes pc = .ok (.ifCond .eq o, 3)) (ho : 0 ≤ (pc : Int) + o) (hp : ((pc : Int) + o).toNat = pc') (Y : x = 0 → Go p e below s n0 k n Q (T.setTop (mkF m pc' Ls rest))) (N : ¬ x = 0 → Go p e below s n0 k n Q (T.setTop (mkF m (pc + 3) Ls rest))) : Go p e below s n0 k n Q (T.setTop (mkF m pc Ls (.int x :: rest))) := by
  by_cases q : x = 0
  · exact Go.st (fun _ => XS.ifYes X.here C.hx rfl rfl (hb C.hby hd) rfl (by simpa [ifCond.holds] using q) ho hp) (Y q)
  · exact Go.st (fun _ => XS.ifNo X.here C.hx rfl (hb C.hby hd) rfl (by simpa [ifCond.holds] using q) ) (N q)
theorem Go.icmp_eq (C : Ctx p s m meth c Z a0 ws own nm bytes ml ret) (X : St p l e R s m args below meth c n0 T h cells slots) {x y : Int32} {o : Int} {pc' : Nat} (hd : decode bytes pc = .ok (.if_icmp .eq o, 3)) (ho : 0 ≤ (pc : Int) + o) (hp : ((pc : Int) + o).toNat = pc') (Y : x = y → Go p e below s n0 k n Q (T.setTop (mkF m pc' Ls rest))) (N : ¬ x = y → Go p e below s n0 k n Q (T.setTop (mkF m (pc + 3) Ls rest))) : Go p e below s n0 k n Q (T.setTop (mkF m pc Ls (.int y :: .int x :: rest))) := by
  by_cases q : x = y
  · exact Go.st (fun _ => XS.icmpYes X.here C.hx rfl rfl (hb C.hby hd) rfl (by simpa [if_icmp.holds] using q) ho hp) (Y q)
  · exact Go.st (fun _ => XS.icmpNo X.here C.hx rfl (hb C.hby hd) rfl (by simpa [if_icmp.holds] using q) ) (N q)
theorem Go.if_ne (C : Ctx p s m meth c Z a0 ws own nm bytes ml ret) (X : St p l e R s m args below meth c n0 T h cells slots) {x : Int32} {o : Int} {pc' : Nat} (hd : decode bytes pc = .ok (.ifCond .ne o, 3)) (ho : 0 ≤ (pc : Int) + o) (hp : ((pc : Int) + o).toNat = pc') (Y : ¬ x = 0 → Go p e below s n0 k n Q (T.setTop (mkF m pc' Ls rest))) (N : x = 0 → Go p e below s n0 k n Q (T.setTop (mkF m (pc + 3) Ls rest))) : Go p e below s n0 k n Q (T.setTop (mkF m pc Ls (.int x :: rest))) := by
  by_cases q : x = 0
  · exact Go.st (fun _ => XS.ifNo X.here C.hx rfl (hb C.hby hd) rfl (by simpa [ifCond.holds] using q) ) (N q)
  · exact Go.st (fun _ => XS.ifYes X.here C.hx rfl rfl (hb C.hby hd) rfl (by simpa [ifCond.holds] using q) ho hp) (Y q)
theorem Go.icmp_ne (C : Ctx p s m meth c Z a0 ws own nm bytes ml ret) (X : St p l e R s m args below meth c n0 T h cells slots) {x y : Int32} {o : Int} {pc' : Nat} (hd : decode bytes pc = .ok (.if_icmp .ne o, 3)) (ho : 0 ≤ (pc : Int) + o) (hp : ((pc : Int) + o).toNat = pc') (Y : ¬ x = y → Go p e below s n0 k n Q (T.setTop (mkF m pc' Ls rest))) (N : x = y → Go p e below s n0 k n Q (T.setTop (mkF m (pc + 3) Ls rest))) : Go p e below s n0 k n Q (T.setTop (mkF m pc Ls (.int y :: .int x :: rest))) := by
  by_cases q : x = y
  · exact Go.st (fun _ => XS.icmpNo X.here C.hx rfl (hb C.hby hd) rfl (by simpa [if_icmp.holds] using q) ) (N q)
  · exact Go.st (fun _ => XS.icmpYes X.here C.hx rfl rfl (hb C.hby hd) rfl (by simpa [if_icmp.holds] using q) ho hp) (Y q)
theorem Go.if_lt (C : Ctx p s m meth c Z a0 ws own nm bytes ml ret) (X : St p l e R s m args below meth c n0 T h cells slots) {x : Int32} {o : Int} {pc' : Nat} (hd : decode bytes pc = .ok (.ifCond .lt o, 3)) (ho : 0 ≤ (pc : Int) + o) (hp : ((pc : Int) + o).toNat = pc') (Y : x < 0 → Go p e below s n0 k n Q (T.setTop (mkF m pc' Ls rest))) (N : ¬ x < 0 → Go p e below s n0 k n Q (T.setTop (mkF m (pc + 3) Ls rest))) : Go p e below s n0 k n Q (T.setTop (mkF m pc Ls (.int x :: rest))) := by
  by_cases q : x < 0
  · exact Go.st (fun _ => XS.ifYes X.here C.hx rfl rfl (hb C.hby hd) rfl (by simpa [ifCond.holds] using q) ho hp) (Y q)
  · exact Go.st (fun _ => XS.ifNo X.here C.hx rfl (hb C.hby hd) rfl (by simpa [ifCond.holds] using q) ) (N q)
theorem Go.icmp_lt (C : Ctx p s m meth c Z a0 ws own nm bytes ml ret) (X : St p l e R s m args below meth c n0 T h cells slots) {x y : Int32} {o : Int} {pc' : Nat} (hd : decode bytes pc = .ok (.if_icmp .lt o, 3)) (ho : 0 ≤ (pc : Int) + o) (hp : ((pc : Int) + o).toNat = pc') (Y : x < y → Go p e below s n0 k n Q (T.setTop (mkF m pc' Ls rest))) (N : ¬ x < y → Go p e below s n0 k n Q (T.setTop (mkF m (pc + 3) Ls rest))) : Go p e below s n0 k n Q (T.setTop (mkF m pc Ls (.int y :: .int x :: rest))) := by
  by_cases q : x < y
  · exact Go.st (fun _ => XS.icmpYes X.here C.hx rfl rfl (hb C.hby hd) rfl (by simpa [if_icmp.holds] using q) ho hp) (Y q)
  · exact Go.st (fun _ => XS.icmpNo X.here C.hx rfl (hb C.hby hd) rfl (by simpa [if_icmp.holds] using q) ) (N q)
theorem Go.if_ge (C : Ctx p s m meth c Z a0 ws own nm bytes ml ret) (X : St p l e R s m args below meth c n0 T h cells slots) {x : Int32} {o : Int} {pc' : Nat} (hd : decode bytes pc = .ok (.ifCond .ge o, 3)) (ho : 0 ≤ (pc : Int) + o) (hp : ((pc : Int) + o).toNat = pc') (Y : ¬ x < 0 → Go p e below s n0 k n Q (T.setTop (mkF m pc' Ls rest))) (N : x < 0 → Go p e below s n0 k n Q (T.setTop (mkF m (pc + 3) Ls rest))) : Go p e below s n0 k n Q (T.setTop (mkF m pc Ls (.int x :: rest))) := by
  by_cases q : x < 0
  · exact Go.st (fun _ => XS.ifNo X.here C.hx rfl (hb C.hby hd) rfl (by simpa [ifCond.holds, Int32.not_lt] using q) ) (N q)
  · exact Go.st (fun _ => XS.ifYes X.here C.hx rfl rfl (hb C.hby hd) rfl (by simpa [ifCond.holds, Int32.not_lt] using q) ho hp) (Y q)
theorem Go.icmp_ge (C : Ctx p s m meth c Z a0 ws own nm bytes ml ret) (X : St p l e R s m args below meth c n0 T h cells slots) {x y : Int32} {o : Int} {pc' : Nat} (hd : decode bytes pc = .ok (.if_icmp .ge o, 3)) (ho : 0 ≤ (pc : Int) + o) (hp : ((pc : Int) + o).toNat = pc') (Y : ¬ x < y → Go p e below s n0 k n Q (T.setTop (mkF m pc' Ls rest))) (N : x < y → Go p e below s n0 k n Q (T.setTop (mkF m (pc + 3) Ls rest))) : Go p e below s n0 k n Q (T.setTop (mkF m pc Ls (.int y :: .int x :: rest))) := by
  by_cases q : x < y
  · exact Go.st (fun _ => XS.icmpNo X.here C.hx rfl (hb C.hby hd) rfl (by simpa [if_icmp.holds, Int32.not_lt] using q) ) (N q)
  · exact Go.st (fun _ => XS.icmpYes X.here C.hx rfl rfl (hb C.hby hd) rfl (by simpa [if_icmp.holds, Int32.not_lt] using q) ho hp) (Y q)
theorem Go.if_gt (C : Ctx p s m meth c Z a0 ws own nm bytes ml ret) (X : St p l e R s m args below meth c n0 T h cells slots) {x : Int32} {o : Int} {pc' : Nat} (hd : decode bytes pc = .ok (.ifCond .gt o, 3)) (ho : 0 ≤ (pc : Int) + o) (hp : ((pc : Int) + o).toNat = pc') (Y : 0 < x → Go p e below s n0 k n Q (T.setTop (mkF m pc' Ls rest))) (N : ¬ 0 < x → Go p e below s n0 k n Q (T.setTop (mkF m (pc + 3) Ls rest))) : Go p e below s n0 k n Q (T.setTop (mkF m pc Ls (.int x :: rest))) := by
  by_cases q : 0 < x
  · exact Go.st (fun _ => XS.ifYes X.here C.hx rfl rfl (hb C.hby hd) rfl (by simpa [ifCond.holds] using q) ho hp) (Y q)
  · exact Go.st (fun _ => XS.ifNo X.here C.hx rfl (hb C.hby hd) rfl (by simpa [ifCond.holds] using q) ) (N q)
theorem Go.icmp_gt (C : Ctx p s m meth c Z a0 ws own nm bytes ml ret) (X : St p l e R s m args below meth c n0 T h cells slots) {x y : Int32} {o : Int} {pc' : Nat} (hd : decode bytes pc = .ok (.if_icmp .gt o, 3)) (ho : 0 ≤ (pc : Int) + o) (hp : ((pc : Int) + o).toNat = pc') (Y : y < x → Go p e below s n0 k n Q (T.setTop (mkF m pc' Ls rest))) (N : ¬ y < x → Go p e below s n0 k n Q (T.setTop (mkF m (pc + 3) Ls rest))) : Go p e below s n0 k n Q (T.setTop (mkF m pc Ls (.int y :: .int x :: rest))) := by
  by_cases q : y < x
  · exact Go.st (fun _ => XS.icmpYes X.here C.hx rfl rfl (hb C.hby hd) rfl (by simpa [if_icmp.holds] using q) ho hp) (Y q)
  · exact Go.st (fun _ => XS.icmpNo X.here C.hx rfl (hb C.hby hd) rfl (by simpa [if_icmp.holds] using q) ) (N q)
theorem Go.if_le (C : Ctx p s m meth c Z a0 ws own nm bytes ml ret) (X : St p l e R s m args below meth c n0 T h cells slots) {x : Int32} {o : Int} {pc' : Nat} (hd : decode bytes pc = .ok (.ifCond .le o, 3)) (ho : 0 ≤ (pc : Int) + o) (hp : ((pc : Int) + o).toNat = pc') (Y : ¬ 0 < x → Go p e below s n0 k n Q (T.setTop (mkF m pc' Ls rest))) (N : 0 < x → Go p e below s n0 k n Q (T.setTop (mkF m (pc + 3) Ls rest))) : Go p e below s n0 k n Q (T.setTop (mkF m pc Ls (.int x :: rest))) := by
  by_cases q : 0 < x
  · exact Go.st (fun _ => XS.ifNo X.here C.hx rfl (hb C.hby hd) rfl (by simpa [ifCond.holds, Int32.not_lt] using q) ) (N q)
  · exact Go.st (fun _ => XS.ifYes X.here C.hx rfl rfl (hb C.hby hd) rfl (by simpa [ifCond.holds, Int32.not_lt] using q) ho hp) (Y q)
theorem Go.icmp_le (C : Ctx p s m meth c Z a0 ws own nm bytes ml ret) (X : St p l e R s m args below meth c n0 T h cells slots) {x y : Int32} {o : Int} {pc' : Nat} (hd : decode bytes pc = .ok (.if_icmp .le o, 3)) (ho : 0 ≤ (pc : Int) + o) (hp : ((pc : Int) + o).toNat = pc') (Y : ¬ y < x → Go p e below s n0 k n Q (T.setTop (mkF m pc' Ls rest))) (N : y < x → Go p e below s n0 k n Q (T.setTop (mkF m (pc + 3) Ls rest))) : Go p e below s n0 k n Q (T.setTop (mkF m pc Ls (.int y :: .int x :: rest))) := by
  by_cases q : y < x
  · exact Go.st (fun _ => XS.icmpNo X.here C.hx rfl (hb C.hby hd) rfl (by simpa [if_icmp.holds, Int32.not_lt] using q) ) (N q)
  · exact Go.st (fun _ => XS.icmpYes X.here C.hx rfl rfl (hb C.hby hd) rfl (by simpa [if_icmp.holds, Int32.not_lt] using q) ho hp) (Y q)
theorem Go.lif_eq (C : Ctx p s m meth c Z a0 ws own nm bytes ml ret) (X : St p l e R s m args below meth c n0 T h cells slots) {x y : Int64} {o : Int} {pc' : Nat} (hd : decode bytes pc = .ok (.ifCond .eq o, 3)) (ho : 0 ≤ (pc : Int) + o) (hp : ((pc : Int) + o).toNat = pc') (Y : x = y → Go p e below s n0 k n Q (T.setTop (mkF m pc' Ls rest))) (N : ¬ x = y → Go p e below s n0 k n Q (T.setTop (mkF m (pc + 3) Ls rest))) : Go p e below s n0 k n Q (T.setTop (mkF m pc Ls (.int (lcmpW x y) :: rest))) := by
  have q := lc_eq x y
  rw [← lcW] at q
  exact Go.if_eq C X hd ho hp (fun r => Y (q.mp r)) (fun r => N (fun u => r (q.mpr u)))
theorem Go.lif_ne (C : Ctx p s m meth c Z a0 ws own nm bytes ml ret) (X : St p l e R s m args below meth c n0 T h cells slots) {x y : Int64} {o : Int} {pc' : Nat} (hd : decode bytes pc = .ok (.ifCond .ne o, 3)) (ho : 0 ≤ (pc : Int) + o) (hp : ((pc : Int) + o).toNat = pc') (Y : ¬ x = y → Go p e below s n0 k n Q (T.setTop (mkF m pc' Ls rest))) (N : x = y → Go p e below s n0 k n Q (T.setTop (mkF m (pc + 3) Ls rest))) : Go p e below s n0 k n Q (T.setTop (mkF m pc Ls (.int (lcmpW x y) :: rest))) := by
  have q := lc_eq x y
  rw [← lcW] at q
  exact Go.if_ne C X hd ho hp (fun r => Y (fun u => r (q.mpr u))) (fun r => N (q.mp r))
theorem Go.lif_lt (C : Ctx p s m meth c Z a0 ws own nm bytes ml ret) (X : St p l e R s m args below meth c n0 T h cells slots) {x y : Int64} {o : Int} {pc' : Nat} (hd : decode bytes pc = .ok (.ifCond .lt o, 3)) (ho : 0 ≤ (pc : Int) + o) (hp : ((pc : Int) + o).toNat = pc') (Y : x < y → Go p e below s n0 k n Q (T.setTop (mkF m pc' Ls rest))) (N : ¬ x < y → Go p e below s n0 k n Q (T.setTop (mkF m (pc + 3) Ls rest))) : Go p e below s n0 k n Q (T.setTop (mkF m pc Ls (.int (lcmpW x y) :: rest))) := by
  have q := lc_lt x y
  rw [← lcW] at q
  exact Go.if_lt C X hd ho hp (fun r => Y (q.mp r)) (fun r => N (fun u => r (q.mpr u)))
theorem Go.lif_ge (C : Ctx p s m meth c Z a0 ws own nm bytes ml ret) (X : St p l e R s m args below meth c n0 T h cells slots) {x y : Int64} {o : Int} {pc' : Nat} (hd : decode bytes pc = .ok (.ifCond .ge o, 3)) (ho : 0 ≤ (pc : Int) + o) (hp : ((pc : Int) + o).toNat = pc') (Y : ¬ x < y → Go p e below s n0 k n Q (T.setTop (mkF m pc' Ls rest))) (N : x < y → Go p e below s n0 k n Q (T.setTop (mkF m (pc + 3) Ls rest))) : Go p e below s n0 k n Q (T.setTop (mkF m pc Ls (.int (lcmpW x y) :: rest))) := by
  have q := lc_lt x y
  rw [← lcW] at q
  exact Go.if_ge C X hd ho hp (fun r => Y (fun u => r (q.mpr u))) (fun r => N (q.mp r))
theorem Go.lif_gt (C : Ctx p s m meth c Z a0 ws own nm bytes ml ret) (X : St p l e R s m args below meth c n0 T h cells slots) {x y : Int64} {o : Int} {pc' : Nat} (hd : decode bytes pc = .ok (.ifCond .gt o, 3)) (ho : 0 ≤ (pc : Int) + o) (hp : ((pc : Int) + o).toNat = pc') (Y : y < x → Go p e below s n0 k n Q (T.setTop (mkF m pc' Ls rest))) (N : ¬ y < x → Go p e below s n0 k n Q (T.setTop (mkF m (pc + 3) Ls rest))) : Go p e below s n0 k n Q (T.setTop (mkF m pc Ls (.int (lcmpW x y) :: rest))) := by
  have q := lc_gt x y
  rw [← lcW] at q
  exact Go.if_gt C X hd ho hp (fun r => Y (q.mp r)) (fun r => N (fun u => r (q.mpr u)))
theorem Go.lif_le (C : Ctx p s m meth c Z a0 ws own nm bytes ml ret) (X : St p l e R s m args below meth c n0 T h cells slots) {x y : Int64} {o : Int} {pc' : Nat} (hd : decode bytes pc = .ok (.ifCond .le o, 3)) (ho : 0 ≤ (pc : Int) + o) (hp : ((pc : Int) + o).toNat = pc') (Y : ¬ y < x → Go p e below s n0 k n Q (T.setTop (mkF m pc' Ls rest))) (N : y < x → Go p e below s n0 k n Q (T.setTop (mkF m (pc + 3) Ls rest))) : Go p e below s n0 k n Q (T.setTop (mkF m pc Ls (.int (lcmpW x y) :: rest))) := by
  have q := lc_gt x y
  rw [← lcW] at q
  exact Go.if_le C X hd ho hp (fun r => Y (fun u => r (q.mpr u))) (fun r => N (q.mp r))
theorem Go.acmp_eq (C : Ctx p s m meth c Z a0 ws own nm bytes ml ret) (X : St p l e R s m args below meth c n0 T h cells slots) {x y : Value} (h1 : x.isRef = true) (h2 : y.isRef = true) {o : Int} {pc' : Nat} (hd : decode bytes pc = .ok (.if_acmp .eq o, 3)) (ho : 0 ≤ (pc : Int) + o) (hp : ((pc : Int) + o).toNat = pc') (Y : x = y → Go p e below s n0 k n Q (T.setTop (mkF m pc' Ls rest))) (N : ¬ x = y → Go p e below s n0 k n Q (T.setTop (mkF m (pc + 3) Ls rest))) : Go p e below s n0 k n Q (T.setTop (mkF m pc Ls (y :: x :: rest))) := by
  obtain ⟨-, -, _, -, X⟩ := X
  by_cases q : x = y
  · exact Go.st (fun _ => Jvm.RoadKit.acmp (g := mkF m pc Ls (y :: x :: rest)) X C.hx rfl h1 h2 (same := true) rfl (hb C.hby hd) rfl (decide_eq_true q) ho (by rw [← hp]; rfl)) (Y q)
  · exact Go.st (fun _ => Jvm.RoadKit.acmp (g := mkF m pc Ls (y :: x :: rest)) X C.hx rfl h1 h2 (same := false) rfl (hb C.hby hd) rfl (decide_eq_false q) ho (by rfl)) (N q)
theorem Go.acmp_ne (C : Ctx p s m meth c Z a0 ws own nm bytes ml ret) (X : St p l e R s m args below meth c n0 T h cells slots) {x y : Value} (h1 : x.isRef = true) (h2 : y.isRef = true) {o : Int} {pc' : Nat} (hd : decode bytes pc = .ok (.if_acmp .ne o, 3)) (ho : 0 ≤ (pc : Int) + o) (hp : ((pc : Int) + o).toNat = pc') (Y : ¬ x = y → Go p e below s n0 k n Q (T.setTop (mkF m pc' Ls rest))) (N : x = y → Go p e below s n0 k n Q (T.setTop (mkF m (pc + 3) Ls rest))) : Go p e below s n0 k n Q (T.setTop (mkF m pc Ls (y :: x :: rest))) := by
  obtain ⟨-, -, _, -, X⟩ := X
  by_cases q : x = y
  · exact Go.st (fun _ => Jvm.RoadKit.acmp (g := mkF m pc Ls (y :: x :: rest)) X C.hx rfl h1 h2 (same := true) rfl (hb C.hby hd) rfl (decide_eq_true q) ho (by rfl)) (N q)
  · exact Go.st (fun _ => Jvm.RoadKit.acmp (g := mkF m pc Ls (y :: x :: rest)) X C.hx rfl h1 h2 (same := false) rfl (hb C.hby hd) rfl (decide_eq_false q) ho (by rw [← hp]; rfl)) (Y q)
theorem Go.getF (C : Ctx p s m meth c Z a0 ws own nm bytes ml ret) (X : St p l e R s m args below meth c n0 T h cells slots) {O n1 d : String} {i : Nat} {a : Addr} {v : Value} (w : Jvm.Cond.fieldLink own i O n1 d ∈ ws) (F : Fld Z h a O n1 d v) (hd : decode bytes pc = .ok (.getfield i, 3)) (K : ∀ T', St p l e R s m args below meth c n0 T' h cells slots → Go p e below s n0 k n Q (T'.setTop (mkF m (pc + 3) Ls (v :: rest)))) : Go p e below s n0 k n Q (T.setTop (mkF m pc Ls (.ref a :: rest))) := by
  obtain ⟨e0, hz, locs, N, X⟩ := X
  obtain ⟨T', X', e', st⟩ := Jvm.RoadKit.getF X C.hx C.hZ C.hown (host := "") (Or.inl (C.w w)) Via.refl e0 F (g := mkF m pc Ls (.ref a :: rest)) rfl rfl (hb C.hby hd)
  exact Go.st st (K T' ⟨e', hz, locs, N, X'⟩)
theorem Go.getS (C : Ctx p s m meth c Z a0 ws own nm bytes ml ret) (X : St p l e R s m args below meth c n0 T h cells slots) {O n1 d : String} {i : Nat} {v : Value} (w : Jvm.Cond.fieldLink own i O n1 d ∈ ws) (F : Sta Z h O n1 d v) (hd : decode bytes pc = .ok (.getstatic i, 3)) (K : ∀ T', St p l e R s m args below meth c n0 T' h cells slots → Go p e below s n0 k n Q (T'.setTop (mkF m (pc + 3) Ls (v :: stk)))) : Go p e below s n0 k n Q (T.setTop (mkF m pc Ls stk)) := by
  obtain ⟨e0, hz, locs, N, X⟩ := X
  obtain ⟨T', X', e', st⟩ := Jvm.RoadKit.getS2 X C.hx C.hZ C.hown (host := "") (Or.inl (C.w w)) Via.refl e0 F (g := mkF m pc Ls stk) rfl (hb C.hby hd)
  exact Go.st st (K T' ⟨e', hz, locs, N, X'⟩)
theorem Go.putF (C : Ctx p s m meth c Z a0 ws own nm bytes ml ret) (X : St p l e R s m args below meth c n0 T h cells slots) {O n1 d C1 : String} {i kk : Nat} {ty : FieldType} {a : Addr} {v old : Value} (w : Jvm.Cond.fieldLink own i O n1 d ∈ ws) (F : Fld Z h a O n1 d old) (E : Exa Z h a C1) (L : Jvm.Cond.lays C1 O n1 d ∈ ws ∨ (Jvm.Cond.laysFinal C1 O n1 d ∈ ws ∧ own = O ∧ nm = "<init>")) (wi : Jvm.Cond.instantiable C1 kk ∈ ws)
    (hty : parseFieldDescriptor d = some ty) (hn : narrow ty v = v) (hf : fits ty v = true) (ha : n0 ≤ a) (hd : decode bytes pc = .ok (.putfield i, 3)) (K : ∀ T' h', St p l e R s m args below meth c n0 T' h' cells slots → Wr h h' a (Jvm.RoadKit.slotOf Z O n1 d) v → Fld Z h' a O n1 d v → Go p e below s n0 k n Q (T'.setTop (mkF m (pc + 3) Ls rest))) : Go p e below s n0 k n Q (T.setTop (mkF m pc Ls (v :: .ref a :: rest))) := by
  obtain ⟨e0, hz, locs, N, X⟩ := X
  obtain ⟨T', h', X', e', W, st⟩ := Jvm.RoadKit.putF X C.hx C.hZ C.hown (host := "") (Or.inl (C.w w)) Via.refl e0 F E (L.imp (fun q => C.w q) (fun q => ⟨C.w q.1, q.2.1, C.hnm.trans q.2.2⟩)) (C.w wi) hty hn hf (g := mkF m pc Ls (v :: .ref a :: rest)) rfl rfl (hb C.hby hd)
  exact Go.st st (K T' h' ⟨e', hz, _, Fr.snoc X' N ha, X'⟩ W (F.same W))
theorem Go.newO (C : Ctx p s m meth c Z a0 ws own nm bytes ml ret) (X : St p l e R s m args below meth c n0 T h cells slots) {C1 : String} {i kk : Nat} (w : Jvm.Cond.classLink own i C1 ∈ ws) (wi : Jvm.Cond.instantiable C1 kk ∈ ws) (wz : Jvm.Cond.initialized C1 ∈ ws) (hd : decode bytes pc = .ok (.new i, 3)) (hc : cells + 1 ≤ R.cells) (hl : slots + kk ≤ R.slots)
    (K : ∀ T' h' b, h.size = b → n0 ≤ b → St p l e R s m args below meth c n0 T' h' (cells + 1) (slots + kk) → Ext h h' → Exa Z h' b C1 → (∀ {O n1 d : String} {ty : FieldType}, (Jvm.Cond.lays C1 O n1 d ∈ ws ∨ Jvm.Cond.laysFinal C1 O n1 d ∈ ws) → parseFieldDescriptor d = some ty → Fld Z h' b O n1 d (defaultValue ty)) → Go p e below s n0 k n Q (T'.setTop (mkF m (pc + 3) Ls (.ref b :: stk)))) : Go p e below s n0 k n Q (T.setTop (mkF m pc Ls stk)) := by
  have hs := X.size
  obtain ⟨e0, hz, locs, N, X⟩ := X
  obtain ⟨T', h', X', e', E, E1, D, -, st⟩ := Jvm.RoadKit.newO X C.hx C.hZ C.hown (C.w w) (C.w wi) (C.w wz) e0 (g := mkF m pc Ls stk) rfl (hb C.hby hd) hc hl
  exact Go.st st (K T' h' _ rfl hs ⟨e', hz, _, N, X'⟩ E E1 (fun q r => D (q.imp (fun q => C.w q) (fun q => C.w q)) r))
theorem AR.of {cA : ClassId} {ty : FieldType} {z : Int32} {a : Addr} (F : Arr Z h a (newA cA ty z) ty) (q : ¬ z < 0) : AR Z h a ty (List.replicate z.toNatClampNeg (defaultValue ty)) :=
  ⟨_, F, by simp [newA], by rw [List.length_replicate]; exact (back32 q).2⟩
theorem Go.newP (C : Ctx p s m meth c Z a0 ws own nm bytes ml ret) (X : St p l e R s m args below meth c n0 T h cells slots) {aty : ArrayType} {z : Int32} {cap : Nat} (w : Jvm.Cond.arrayClass (newarray.typeOf aty) ∈ ws) (hd : decode bytes pc = .ok (.newarray aty, 2)) (hn : ¬ z < 0) (hcap : z.toNatClampNeg ≤ cap) (hb8 : cap * 8 ≤ 536870912) (hc : cells + 1 ≤ R.cells) (hl : slots + cap ≤ R.slots)
    (K : ∀ T' h' b, h.size = b → n0 ≤ b → St p l e R s m args below meth c n0 T' h' (cells + 1) (slots + cap) → Ext h h' → AR Z h' b (newarray.typeOf aty) (List.replicate z.toNatClampNeg (defaultValue (newarray.typeOf aty))) → Go p e below s n0 k n Q (T'.setTop (mkF m (pc + 2) Ls (.ref b :: rest)))) : Go p e below s n0 k n Q (T.setTop (mkF m pc Ls (.int z :: rest))) := by
  have hs := X.size
  obtain ⟨e0, hz, locs, N, X⟩ := X
  obtain ⟨T', h', cA, X', e', E, F, st⟩ := Jvm.RoadKit.newP X C.hx C.hZ (C.w w) e0 (g := mkF m pc Ls (.int z :: rest)) rfl (hb C.hby hd) rfl hn hcap hb8 hc hl
  exact Go.st st (K T' h' _ rfl hs ⟨e', hz, _, N, X'⟩ E (AR.of F hn))
theorem AR.lt {a : Addr} {ty : FieldType} {vs : List Value} (F : AR Z h a ty vs) : a < h.size := by obtain ⟨c, A, -⟩ := F; exact A.lt
theorem AR.ext {a : Addr} {ty : FieldType} {vs : List Value} (F : AR Z h a ty vs) (E : Ext h h') : AR Z h' a ty vs := by obtain ⟨c, A, r⟩ := F; exact ⟨c, A.ext E, r⟩
theorem AR.other {a b : Addr} {ty : FieldType} {vs : List Value} {sl : Nat} {v : Value} (F : AR Z h b ty vs) (W : Wr h h' a sl v) (q : b ≠ a) : AR Z h' b ty vs := by obtain ⟨c, A, r⟩ := F; exact ⟨c, A.other W q, r⟩
theorem AR.keep {a : Addr} {ty : FieldType} {vs : List Value} {us : List Addr} (F : AR Z h a ty vs) (K : Keep h h' us) (q : a ∉ us) : AR Z h' a ty vs := by obtain ⟨c, A, r⟩ := F; exact ⟨c, ⟨K.2.1 a c A.1 q, A.2⟩, r⟩
theorem AR.same {a : Addr} {ty : FieldType} {vs : List Value} {i : Nat} {v : Value} (F : AR Z h a ty vs) (W : Wr h h' a i v) : AR Z h' a ty (vs.set i v) := by
  obtain ⟨c, A, r, q⟩ := F
  refine ⟨_, A.same W, ?_, by rw [List.length_set]; exact q⟩
  simp [Cell.setSlot, r]
theorem AR.in {a : Addr} {ty : FieldType} {vs : List Value} {j : Int32} {c : Cell} (r : c.slots = vs.toArray) (hj : ¬ j < 0) (hl : j.toNatClampNeg < vs.length) : ¬ (j < 0 ∨ c.slots.size ≤ j.toNatClampNeg) := by
  rw [r]; simp; exact ⟨Int32.not_lt.mp hj, hl⟩
theorem AR.ne {a b : Addr} {ty : FieldType} {vs : List Value} (F : AR Z h a ty vs) (g : h.size = b) : a ≠ b := by subst g; exact Nat.ne_of_lt F.lt
theorem ltOf {vs : List Value} {i : Nat} {v : Value} (q : vs[i]? = some v) : i < vs.length := (List.getElem?_eq_some_iff.mp q).1
theorem Go.iaload (C : Ctx p s m meth c Z a0 ws own nm bytes ml ret) (X : St p l e R s m args below meth c n0 T h cells slots) {a : Addr} {vs : List Value} {j : Int32} {x : Int32} (F : AR Z h a .int vs) (hj : ¬ j < 0) (hv : vs[j.toNatClampNeg]? = some (.int x)) (hd : decode bytes pc = .ok (.iaload, 1)) (K : Go p e below s n0 k n Q (T.setTop (mkF m (pc + 1) Ls (.int x :: rest)))) : Go p e below s n0 k n Q (T.setTop (mkF m pc Ls (.int j :: .ref a :: rest))) := by
  obtain ⟨e0, hz, locs, N, X⟩ := X
  obtain ⟨cl, A, r, -⟩ := F
  exact Go.st (X.iaload C.hx (j := j) (v := .int x) (by rw [e0]; exact A.1) (State.isArrayOf_alike C.hZ.alike A.2.1) A.2.2 (AR.in (a := a) (ty := .int) r hj (ltOf hv)) (by rw [r]; simpa using hv) (g := mkF m pc Ls (.int j :: .ref a :: rest)) rfl rfl (hb C.hby hd)) K
theorem Go.laload (C : Ctx p s m meth c Z a0 ws own nm bytes ml ret) (X : St p l e R s m args below meth c n0 T h cells slots) {a : Addr} {vs : List Value} {j : Int32} {x : Int64} (F : AR Z h a .long vs) (hj : ¬ j < 0) (hv : vs[j.toNatClampNeg]? = some (.long x)) (hd : decode bytes pc = .ok (.laload, 1)) (K : Go p e below s n0 k n Q (T.setTop (mkF m (pc + 1) Ls (.long x :: rest)))) : Go p e below s n0 k n Q (T.setTop (mkF m pc Ls (.int j :: .ref a :: rest))) := by
  obtain ⟨e0, hz, locs, N, X⟩ := X
  obtain ⟨cl, A, r, -⟩ := F
  exact Go.st (X.laload C.hx (j := j) (v := .long x) (by rw [e0]; exact A.1) (State.isArrayOf_alike C.hZ.alike A.2.1) A.2.2 (AR.in (a := a) (ty := .long) r hj (ltOf hv)) (by rw [r]; simpa using hv) (g := mkF m pc Ls (.int j :: .ref a :: rest)) rfl rfl (hb C.hby hd)) K
theorem Go.baload (C : Ctx p s m meth c Z a0 ws own nm bytes ml ret) (X : St p l e R s m args below meth c n0 T h cells slots) {a : Addr} {vs : List Value} {j : Int32} {x : Int32} (F : AR Z h a .byte vs) (hj : ¬ j < 0) (hv : vs[j.toNatClampNeg]? = some (.int x)) (hd : decode bytes pc = .ok (.baload, 1)) (K : Go p e below s n0 k n Q (T.setTop (mkF m (pc + 1) Ls (.int x :: rest)))) : Go p e below s n0 k n Q (T.setTop (mkF m pc Ls (.int j :: .ref a :: rest))) := by
  obtain ⟨e0, hz, locs, N, X⟩ := X
  obtain ⟨cl, A, r, -⟩ := F
  exact Go.st (X.baloadBytes C.hx (j := j) (v := .int x) (by rw [e0]; exact A.1) (State.isArrayOf_alike C.hZ.alike A.2.1) A.2.2 (AR.in (a := a) (ty := .byte) r hj (ltOf hv)) (by rw [r]; simpa using hv) (g := mkF m pc Ls (.int j :: .ref a :: rest)) rfl rfl (hb C.hby hd)) K
theorem Go.aaload (C : Ctx p s m meth c Z a0 ws own nm bytes ml ret) (X : St p l e R s m args below meth c n0 T h cells slots) {a : Addr} {ty : FieldType} {vs : List Value} {j : Int32} {v : Value} (F : AR Z h a ty vs) (hty : ty.isReference = true) (hj : ¬ j < 0) (hv : vs[j.toNatClampNeg]? = some v) (hd : decode bytes pc = .ok (.aaload, 1)) (K : Go p e below s n0 k n Q (T.setTop (mkF m (pc + 1) Ls (v :: rest)))) : Go p e below s n0 k n Q (T.setTop (mkF m pc Ls (.int j :: .ref a :: rest))) := by
  obtain ⟨e0, hz, locs, N, X⟩ := X
  obtain ⟨cl, A, r, -⟩ := F
  exact Go.st (X.aaload C.hx (j := j) (v := v) (by rw [e0]; exact A.1) (State.isArrayOf_alike C.hZ.alike A.2.1) hty A.2.2 (AR.in (a := a) (ty := ty) r hj (ltOf hv)) (by rw [r]; simpa using hv) (g := mkF m pc Ls (.int j :: .ref a :: rest)) rfl rfl (hb C.hby hd)) K
theorem Go.alen (C : Ctx p s m meth c Z a0 ws own nm bytes ml ret) (X : St p l e R s m args below meth c n0 T h cells slots) {a : Addr} {ty : FieldType} {vs : List Value} {z : Int32} (F : AR Z h a ty vs) (hz : vs.length.toInt32 = z) (hd : decode bytes pc = .ok (.arraylength, 1)) (K : Go p e below s n0 k n Q (T.setTop (mkF m (pc + 1) Ls (.int z :: rest)))) : Go p e below s n0 k n Q (T.setTop (mkF m pc Ls (.ref a :: rest))) := by
  subst hz
  obtain ⟨e0, hz, locs, N, X⟩ := X
  obtain ⟨cl, A, r, -⟩ := F
  refine Go.st (X.arraylength C.hx (by rw [e0]; exact A.1) (State.isArrayOf_alike C.hZ.alike A.2.1) (g := mkF m pc Ls (.ref a :: rest)) rfl rfl (hb C.hby hd)) ?_
  rw [r]
  simpa using K
theorem Go.iastore (C : Ctx p s m meth c Z a0 ws own nm bytes ml ret) (X : St p l e R s m args below meth c n0 T h cells slots) {a : Addr} {vs : List Value} {j : Int32} {x : Int32} (F : AR Z h a .int vs) (hj : ¬ j < 0) (hl : j.toNatClampNeg < vs.length) (ha : n0 ≤ a) (hd : decode bytes pc = .ok (.iastore, 1)) (K : ∀ T' h', St p l e R s m args below meth c n0 T' h' cells slots → Wr h h' a j.toNatClampNeg (.int x) → AR Z h' a .int (vs.set j.toNatClampNeg (.int x)) → Go p e below s n0 k n Q (T'.setTop (mkF m (pc + 1) Ls rest))) : Go p e below s n0 k n Q (T.setTop (mkF m pc Ls (.int x :: .int j :: .ref a :: rest))) := by
  obtain ⟨e0, hz, locs, N, X⟩ := X
  have F0 := F
  obtain ⟨cl, A, r, -⟩ := F
  obtain ⟨T', h', X', e', W, st⟩ := Jvm.RoadKit.stI X C.hx C.hZ e0 A (j := j) (x := x) (AR.in (a := a) (ty := .int) r hj hl) (g := mkF m pc Ls (.int x :: .int j :: .ref a :: rest)) rfl rfl (hb C.hby hd)
  exact Go.st st (K T' h' ⟨e', hz, _, Fr.snoc X' N ha, X'⟩ W (F0.same W))
theorem Go.lastore (C : Ctx p s m meth c Z a0 ws own nm bytes ml ret) (X : St p l e R s m args below meth c n0 T h cells slots) {a : Addr} {vs : List Value} {j : Int32} {x : Int64} (F : AR Z h a .long vs) (hj : ¬ j < 0) (hl : j.toNatClampNeg < vs.length) (ha : n0 ≤ a) (hd : decode bytes pc = .ok (.lastore, 1)) (K : ∀ T' h', St p l e R s m args below meth c n0 T' h' cells slots → Wr h h' a j.toNatClampNeg (.long x) → AR Z h' a .long (vs.set j.toNatClampNeg (.long x)) → Go p e below s n0 k n Q (T'.setTop (mkF m (pc + 1) Ls rest))) : Go p e below s n0 k n Q (T.setTop (mkF m pc Ls (.long x :: .int j :: .ref a :: rest))) := by
  obtain ⟨e0, hz, locs, N, X⟩ := X
  have F0 := F
  obtain ⟨cl, A, r, -⟩ := F
  obtain ⟨T', h', X', e', W, st⟩ := Jvm.RoadKit.stJ X C.hx C.hZ e0 A (j := j) (x := x) (AR.in (a := a) (ty := .long) r hj hl) (g := mkF m pc Ls (.long x :: .int j :: .ref a :: rest)) rfl rfl (hb C.hby hd)
  exact Go.st st (K T' h' ⟨e', hz, _, Fr.snoc X' N ha, X'⟩ W (F0.same W))
theorem Go.bastore (C : Ctx p s m meth c Z a0 ws own nm bytes ml ret) (X : St p l e R s m args below meth c n0 T h cells slots) {a : Addr} {vs : List Value} {j : Int32} {x : Int32} (F : AR Z h a .byte vs) (hj : ¬ j < 0) (hl : j.toNatClampNeg < vs.length) (ha : n0 ≤ a) (hd : decode bytes pc = .ok (.bastore, 1)) (K : ∀ T' h', St p l e R s m args below meth c n0 T' h' cells slots → Wr h h' a j.toNatClampNeg (.int (nar .byte x)) → AR Z h' a .byte (vs.set j.toNatClampNeg (.int (nar .byte x))) → Go p e below s n0 k n Q (T'.setTop (mkF m (pc + 1) Ls rest))) : Go p e below s n0 k n Q (T.setTop (mkF m pc Ls (.int x :: .int j :: .ref a :: rest))) := by
  obtain ⟨e0, hz, locs, N, X⟩ := X
  have F0 := F
  obtain ⟨cl, A, r, -⟩ := F
  obtain ⟨T', h', X', e', W, st⟩ := Jvm.RoadKit.stB X C.hx C.hZ e0 A (j := j) (x := x) (AR.in (a := a) (ty := .byte) r hj hl) (g := mkF m pc Ls (.int x :: .int j :: .ref a :: rest)) rfl rfl (hb C.hby hd)
  exact Go.st st (K T' h' ⟨e', hz, _, Fr.snoc X' N ha, X'⟩ W (F0.same W))
theorem Con.back {y : MethodName} {rm : Room} {as : Array Value} {W : Nat} (H : Con l Z y bytes ml ret [] rm n0 as h Q) (hZ : Z.Warmed39 s.vm) (wc : (Jvm.Cond.code y bytes ml ret).before a0 Z = true) (wz : (Jvm.Cond.initialized y.cls).before a0 Z = true) (hf : rm.frames + 1 ≤ R.frames) (hl : W + (ml + 11) + rm.locals ≤ R.locals) :
    Back l R p e below s args y 3 W (fun A a => a = as ∧ A.U.heap = h ∧ A.cells + rm.cells ≤ R.cells ∧ A.slots + rm.slots ≤ R.slots)
      (fun A _ v B => ∃ L, (Q v B.U.heap ∧ Fr n0 L) ∧ B.locs = A.locs ++ L ∧ B.cells = A.cells + rm.cells ∧ B.slots = A.slots + rm.slots) :=
  backOf (Q := fun v h L => Q v h ∧ Fr n0 L) H hZ wc wz hf hl
theorem Go.callS (C : Ctx p s m meth c Z a0 ws own nm bytes ml ret) (X : St p l e R s m args below meth c n0 T h cells slots) {y : MethodName} {bytes' : ByteArray} {ml' : Nat} {ret' : Option FieldType} {rm : Room} {i W : Nat} {argsL : List Value} {Q' : Option Value → Heap → Prop} (w1 : Jvm.Cond.methodLink own i y ∈ ws) (w2 : Jvm.Cond.static y ∈ ws) (w3 : Jvm.Cond.initialized y.cls ∈ ws) (w4 : Jvm.Cond.code y bytes' ml' ret' ∈ ws) (hy : y.cls ≠ "java/lang/invoke/MethodHandle" ∧ y.cls ≠ "java/lang/invoke/VarHandle")
    (H : Con l Z y bytes' ml' ret' [] rm n0 argsL.toArray h Q') (hfr : rm.frames + 1 ≤ R.frames) (hlo : W + (ml' + 11) + rm.locals ≤ R.locals) (hsz : Ls.size = ml) (hlen : ∀ sig, parseMethodDescriptor y.desc = some sig → argsL.length = sig.parameters.length) (hW : (rest.map fun v => v.category).sum ≤ W) (hstk : stk = argsL.reverse ++ rest) (hd : decode bytes pc = .ok (.invokestatic i, 3)) (hce : cells + rm.cells ≤ R.cells) (hsl : slots + rm.slots ≤ R.slots) (K : ∀ T' h' v, St p l e R s m args below meth c n0 T' h' (cells + rm.cells) (slots + rm.slots) → Q' v h' → Go p e below s n0 k n Q (T'.setTop (mkF m (pc + 3) Ls (v.toList ++ rest)))) : Go p e below s n0 k n Q (T.setTop (mkF m pc Ls stk)) := by
  obtain ⟨e0, hz, locs, N, X⟩ := X
  obtain ⟨v, _, ⟨T', L', k', n'⟩, -, X', ⟨L, hQ, l1, y1, z1⟩, st⟩ := Jvm.LawKit.callS X C.hx (y := y) C.hown (mvT C.hZ (C.w w1)) (mvT C.hZ (C.w w2)) (mvT C.hZ (C.w w3)) (mvT C.hZ (C.w w4)) hy (H.back (W := W) C.hZ (C.w w4) (C.w w3) hfr hlo) (g := mkF m pc Ls stk) rfl (hsz.trans C.hml.symm) (argsL := argsL) (rest := rest) hlen hstk (by show 2 * 0 + _ ≤ _; omega) (hb C.hby hd) (fun _ _ => ⟨rfl, e0, hce, hsl⟩)
  dsimp only [Pt.U, Pt.locs, Pt.cells, Pt.slots] at X' l1 y1 z1 st hQ
  subst l1 y1 z1
  exact Go.st st (K T' _ v ⟨rfl, hz, _, N.app hQ.2, X'⟩ hQ.1)
theorem Go.callInit (C : Ctx p s m meth c Z a0 ws own nm bytes ml ret) (X : St p l e R s m args below meth c n0 T h cells slots) {y : MethodName} {bytes' : ByteArray} {ml' : Nat} {rm : Room} {i W : Nat} {argsL : List Value} {Q' : Option Value → Heap → Prop} {a : Addr} (hy1 : y.name = "<init>") (w1 : Jvm.Cond.methodLink own i y ∈ ws) (w2 : Jvm.Cond.instanceMethod y ∈ ws) (w3 : Jvm.Cond.initialized y.cls ∈ ws) (w4 : Jvm.Cond.code y bytes' ml' none ∈ ws) (hy : y.cls ≠ "java/lang/invoke/MethodHandle" ∧ y.cls ≠ "java/lang/invoke/VarHandle")
    (H : Con l Z y bytes' ml' none [] rm n0 (.ref a :: argsL).toArray h Q') (hfr : rm.frames + 1 ≤ R.frames) (hlo : W + (ml' + 11) + rm.locals ≤ R.locals) (hsz : Ls.size = ml) (hlen : ∀ sig, parseMethodDescriptor y.desc = some sig → argsL.length = sig.parameters.length) (hW : (rest.map fun v => v.category).sum ≤ W) (hstk : stk = argsL.reverse ++ .ref a :: rest) (hd : decode bytes pc = .ok (.invokespecial i, 3)) (hce : cells + rm.cells ≤ R.cells) (hsl : slots + rm.slots ≤ R.slots) (K : ∀ T' h' v, St p l e R s m args below meth c n0 T' h' (cells + rm.cells) (slots + rm.slots) → Q' v h' → Go p e below s n0 k n Q (T'.setTop (mkF m (pc + 3) Ls (v.toList ++ rest)))) : Go p e below s n0 k n Q (T.setTop (mkF m pc Ls stk)) := by
  obtain ⟨e0, hz, locs, N, X⟩ := X
  obtain ⟨v, _, ⟨T', L', k', n'⟩, -, X', ⟨L, hQ, l1, y1, z1⟩, st⟩ := X.specialBack C.hx (y := y) hy1 C.hown (mvT C.hZ (C.w w1)) (mvT C.hZ (C.w w2)) (mvT C.hZ (C.w w4)) hy (H.back (W := W) C.hZ (C.w w4) (C.w w3) hfr hlo) (g := mkF m pc Ls stk) rfl (hsz.trans C.hml.symm) (Steps.refl _) (a := a) (argsL := argsL) (rest := rest) hlen hstk (by show 2 * 0 + _ ≤ _; omega) (hb C.hby hd) (fun _ _ => ⟨rfl, e0, hce, hsl⟩)
  dsimp only [Pt.U, Pt.locs, Pt.cells, Pt.slots] at X' l1 y1 z1 st hQ
  subst l1 y1 z1
  exact Go.tr st (K T' _ v ⟨rfl, hz, _, N.app hQ.2, X'⟩ hQ.1)
theorem Go.callV (C : Ctx p s m meth c Z a0 ws own nm bytes ml ret) (X : St p l e R s m args below meth c n0 T h cells slots) {y : MethodName} {bytes' : ByteArray} {ml' : Nat} {ret' : Option FieldType} {rm : Room} {i W : Nat} {argsL : List Value} {Q' : Option Value → Heap → Prop} {a : Addr} {C1 : String} (E : Exa Z h a C1) (w1 : Jvm.Cond.methodLink own i y ∈ ws) (w2 : Jvm.Cond.declares y ∈ ws) (w5 : Jvm.Cond.selects C1 y y ∈ ws) (w6 : Jvm.Cond.instanceMethod y ∈ ws) (w3 : Jvm.Cond.initialized y.cls ∈ ws) (w4 : Jvm.Cond.code y bytes' ml' ret' ∈ ws) (hy : y.cls ≠ "java/lang/invoke/MethodHandle" ∧ y.cls ≠ "java/lang/invoke/VarHandle") (hC1 : C1 = y.cls)
    (H : Con l Z y bytes' ml' ret' [] rm n0 (.ref a :: argsL).toArray h Q') (hfr : rm.frames + 1 ≤ R.frames) (hlo : W + (ml' + 11) + rm.locals ≤ R.locals) (hsz : Ls.size = ml) (hlen : ∀ sig, parseMethodDescriptor y.desc = some sig → argsL.length = sig.parameters.length) (hW : (rest.map fun v => v.category).sum ≤ W) (hstk : stk = argsL.reverse ++ .ref a :: rest) (hd : decode bytes pc = .ok (.invokevirtual i, 3)) (hce : cells + rm.cells ≤ R.cells) (hsl : slots + rm.slots ≤ R.slots) (K : ∀ T' h' v, St p l e R s m args below meth c n0 T' h' (cells + rm.cells) (slots + rm.slots) → Q' v h' → Go p e below s n0 k n Q (T'.setTop (mkF m (pc + 3) Ls (v.toList ++ rest)))) : Go p e below s n0 k n Q (T.setTop (mkF m pc Ls stk)) := by
  subst hC1
  obtain ⟨e0, hz, locs, N, X⟩ := X
  obtain ⟨cq, kq, qa, qb, qc⟩ := isOf (T := T) C.hZ e0 E
  obtain ⟨v, _, ⟨T', L', k', n'⟩, -, X', ⟨L, hQ, l1, y1, z1⟩, st⟩ := X.virtualBack C.hx (y := y) (z := y) C.hown (mvT C.hZ (C.w w1)) (mvT C.hZ (C.w w2)) (notFace_of_selects (args := #[]) (mvT C.hZ (C.w w5))) (mvT C.hZ (C.w w5)) (mvT C.hZ (C.w w6)) hy (H.back (W := W) C.hZ (C.w w4) (C.w w3) hfr hlo) qa qc (g := mkF m pc Ls stk) rfl (hsz.trans C.hml.symm) (Steps.refl _) (argsL := argsL) (rest := rest) hlen hstk (by show 2 * 0 + _ ≤ _; omega) (hb C.hby hd) (fun _ _ => ⟨rfl, e0, hce, hsl⟩)
  dsimp only [Pt.U, Pt.locs, Pt.cells, Pt.slots] at X' l1 y1 z1 st hQ
  subst l1 y1 z1
  exact Go.tr st (K T' _ v ⟨rfl, hz, _, N.app hQ.2, X'⟩ hQ.1)
theorem Go.initO (C : Ctx p s m meth c Z a0 ws own nm bytes ml ret) (X : St p l e R s m args below meth c n0 T h cells slots) {i W : Nat} {a : Addr} (w1 : Jvm.Cond.methodLink own i Lib.objectInit ∈ ws) (w2 : Jvm.Cond.instanceMethod Lib.objectInit ∈ ws) (w3 : Jvm.Cond.code Lib.objectInit ⟨#[0xb1]⟩ 1 none ∈ ws) (hsz : Ls.size = ml) (hd : decode bytes pc = .ok (.invokespecial i, 3)) (hf : 1 ≤ R.frames) (hW : (rest.map fun v => v.category).sum ≤ W) (hl : W + 12 ≤ R.locals) (K : ∀ T', St p l e R s m args below meth c n0 T' h cells slots → Go p e below s n0 k n Q (T'.setTop (mkF m (pc + 3) Ls rest))) : Go p e below s n0 k n Q (T.setTop (mkF m pc Ls (.ref a :: rest))) := by
  obtain ⟨e0, hz, locs, N, X⟩ := X
  obtain ⟨T', X', e', st⟩ := Jvm.RoadKit.initO X C.hx C.hZ C.hown (C.w w1) (C.w w2) (C.w w3) e0 (g := mkF m pc Ls (.ref a :: rest)) rfl (hsz.trans C.hml.symm) rfl (hb C.hby hd) hf (W := W) (by show 2 * 0 + _ ≤ _; omega) hl
  exact Go.st st (K T' ⟨e', hz, locs, N, X'⟩)
theorem Go.ldcI (C : Ctx p s m meth c Z a0 ws own nm bytes ml ret) (X : St p l e R s m args below meth c n0 T h cells slots) {i : Nat} {x : Int32} (w : Jvm.Cond.constant own i x ∈ ws) (hd : decode bytes pc = .ok (.ldc i, 2)) (K : Go p e below s n0 k n Q (T.setTop (mkF m (pc + 2) Ls (.int x :: stk)))) : Go p e below s n0 k n Q (T.setTop (mkF m pc Ls stk)) := by
  obtain ⟨e0, hz, locs, N, X⟩ := X
  exact Go.st (fun _ => X.ldcI (g := mkF m pc Ls stk) C.hx C.hown (mvT C.hZ (C.w w)) rfl (hb C.hby hd)) K
theorem Go.ldcW (C : Ctx p s m meth c Z a0 ws own nm bytes ml ret) (X : St p l e R s m args below meth c n0 T h cells slots) {i : Nat} {x : Int32} (w : Jvm.Cond.constant own i x ∈ ws) (hd : decode bytes pc = .ok (.ldc_w i, 3)) (K : Go p e below s n0 k n Q (T.setTop (mkF m (pc + 3) Ls (.int x :: stk)))) : Go p e below s n0 k n Q (T.setTop (mkF m pc Ls stk)) := by
  obtain ⟨e0, hz, locs, N, X⟩ := X
  exact Go.st (fun _ => X.ldcWI (g := mkF m pc Ls stk) C.hx C.hown (mvT C.hZ (C.w w)) rfl (hb C.hby hd)) K
theorem Go.ldcJ (C : Ctx p s m meth c Z a0 ws own nm bytes ml ret) (X : St p l e R s m args below meth c n0 T h cells slots) {i : Nat} {x : Int64} (w : Jvm.Cond.constantLong own i x ∈ ws) (hd : decode bytes pc = .ok (.ldc2_w i, 3)) (K : Go p e below s n0 k n Q (T.setTop (mkF m (pc + 3) Ls (.long x :: stk)))) : Go p e below s n0 k n Q (T.setTop (mkF m pc Ls stk)) := by
  obtain ⟨e0, hz, locs, N, X⟩ := X
  exact Go.st (fun _ => X.ldc2J (g := mkF m pc Ls stk) C.hx C.hown (mvT C.hZ (C.w w)) rfl (hb C.hby hd)) K
theorem Go.irem (C : Ctx p s m meth c Z a0 ws own nm bytes ml ret) (X : St p l e R s m args below meth c n0 T h cells slots) {x y : Int32} (hy : y ≠ 0) (hd : decode bytes pc = .ok (.irem, 1)) (K : Go p e below s n0 k n Q (T.setTop (mkF m (pc + 1) Ls (.int (x % y) :: rest)))) : Go p e below s n0 k n Q (T.setTop (mkF m pc Ls (.int y :: .int x :: rest))) := by
  obtain ⟨e0, hz, locs, N, X⟩ := X
  exact Go.st (fun _ => Jvm.RoadKit.iremM (g := mkF m pc Ls (.int y :: .int x :: rest)) X C.hx rfl (hb C.hby hd) rfl hy) K
theorem Go.lrem (C : Ctx p s m meth c Z a0 ws own nm bytes ml ret) (X : St p l e R s m args below meth c n0 T h cells slots) {x y : Int64} (hy : y ≠ 0) (hd : decode bytes pc = .ok (.lrem, 1)) (K : Go p e below s n0 k n Q (T.setTop (mkF m (pc + 1) Ls (.long (x % y) :: rest)))) : Go p e below s n0 k n Q (T.setTop (mkF m pc Ls (.long y :: .long x :: rest))) := by
  refine Go.st (fun _ => XS.lrem (g := mkF m pc Ls (.long y :: .long x :: rest)) X.here C.hx rfl (hb C.hby hd) rfl hy) ?_
  rw [lrem_mod]
  exact K
theorem Go.dupX2 (C : Ctx p s m meth c Z a0 ws own nm bytes ml ret) (X : St p l e R s m args below meth c n0 T h cells slots) {x y z : Value} (h1 : x.category = 1) (h2 : y.category = 1) (h3 : z.category = 1) (hd : decode bytes pc = .ok (.dup_x2, 1)) (K : Go p e below s n0 k n Q (T.setTop (mkF m (pc + 1) Ls (x :: y :: z :: x :: rest)))) : Go p e below s n0 k n Q (T.setTop (mkF m pc Ls (x :: y :: z :: rest))) := by
  refine Go.st (fun t hr => ?_) K
  have hx := C.hx
  have hd' := hb C.hby hd
  jvm_step X.here [X.here.top, hx, hd', h1, h2, h3]
  exact hr
theorem eqI_v {args : Array Value} {first s : State} {o : Option Outcome} {idx : List Nat} {t : Term} {z : Int32} (q : (Jvm.Cond.eq t (Term.int z)).value args first o s idx = some true) : t.eval args first o idx s = some (.int z) := by
  obtain ⟨x, y, ha, hb, k1, k2⟩ := cmp_v (Or.inl q)
  have hy : y = .int z := by
    have r := Term.int_eval (args := args) (first := first) (o := o) (idx := idx) (s := s) z
    rw [r] at hb; exact (Option.some.inj hb).symm
  subst hy
  obtain ⟨u, rfl⟩ := k2
  rw [ha, gotT (Cond.eq_ints ha hb) q]
theorem fieldNe {args : Array Value} {first s : State} {o : Option Outcome} {idx : List Nat} {t t' : Term} {C f d : String} {a b : Addr} {z z' : Int32} (h1 : t.eval args first o idx s = some (.ref a)) (h2 : t'.eval args first o idx s = some (.ref b)) (q1 : (Jvm.Cond.eq (Term.field t C f d) (Term.int z)).value args first o s idx = some true) (q2 : (Jvm.Cond.eq (Term.field t' C f d) (Term.int z')).value args first o s idx = some true) (hz : z ≠ z') : a ≠ b := by
  intro r; subst r
  have e1 := eqI_v q1; have e2 := eqI_v q2
  rw [fld_at h1] at e1; rw [fld_at h2] at e2
  rw [e1] at e2
  cases e2; exact hz rfl
/-- an array whose elements are known and that may be cloned -/
def AF (Z : State) (h : Heap) (a : Addr) (ty : FieldType) (vs : List Value) : Prop := ∃ c : Cell, Arr Z h a c ty ∧ c.slots = vs.toArray ∧ vs.length < 2 ^ 31 ∧ FitC Z c
theorem AF.ar {a : Addr} {ty : FieldType} {vs : List Value} (F : AF Z h a ty vs) : AR Z h a ty vs := by obtain ⟨c, A, r, q, -⟩ := F; exact ⟨c, A, r, q⟩
theorem Go.clone (C : Ctx p s m meth c Z a0 ws own nm bytes ml ret) (X : St p l e R s m args below meth c n0 T h cells slots) {ad : String} {i W cap : Nat} {a : Addr} {ty : FieldType} {vs : List Value} (w1 : Jvm.Cond.methodLink own i ⟨ad, "clone", "()Ljava/lang/Object;"⟩ ∈ ws) (w2 : Jvm.Cond.sameMethod ad "java/lang/Object" "clone" "()Ljava/lang/Object;" ∈ ws) (w3 : Jvm.Cond.native ⟨"java/lang/Object", "clone", "()Ljava/lang/Object;"⟩ ∈ ws) (w4 : Jvm.Cond.instanceMethod ⟨"java/lang/Object", "clone", "()Ljava/lang/Object;"⟩ ∈ ws)
    (w5 : Jvm.Cond.selects ad ⟨ad, "clone", "()Ljava/lang/Object;"⟩ ⟨"java/lang/Object", "clone", "()Ljava/lang/Object;"⟩ ∈ ws) (w6 : Jvm.Cond.castable ad "java/lang/Cloneable" ∈ ws) (F : AF Z h a ty vs) (E : Exa Z h a ad) (hsz : Ls.size = ml) (hd : decode bytes pc = .ok (.invokevirtual i, 3)) (hf : 1 ≤ R.frames) (hW : (rest.map fun v => v.category).sum ≤ W) (hl : W + 14 ≤ R.locals) (hcap : vs.length ≤ cap) (hc : cells + 1 ≤ R.cells) (hsl : slots + cap ≤ R.slots)
    (K : ∀ T' h' b, h.size = b → n0 ≤ b → St p l e R s m args below meth c n0 T' h' (cells + 1) (slots + cap) → Ext h h' → AR Z h' b ty vs → Exa Z h' b ad → Go p e below s n0 k n Q (T'.setTop (mkF m (pc + 3) Ls (.ref b :: rest)))) : Go p e below s n0 k n Q (T.setTop (mkF m pc Ls (.ref a :: rest))) := by
  have hs := X.size
  obtain ⟨e0, hz, locs, N, X⟩ := X
  obtain ⟨cl, A, r, q, FC⟩ := F
  obtain ⟨T', h', X', e', Ex, A', E', st⟩ := Jvm.RoadKit.cloneA X C.hx C.hZ C.hown (C.w w1) (C.w w2) (C.w w3) (C.w w4) (C.w w5) (C.w w6) e0 A E FC (g := mkF m pc Ls (.ref a :: rest)) rfl (hsz.trans C.hml.symm) rfl (hb C.hby hd) hf (W := W) (cap := cap) (by show 2 * 0 + _ ≤ _; omega) hl (by rw [r]; simpa using hcap) hc hsl
  exact Go.st st (K T' h' _ rfl hs ⟨e', hz, _, N, X'⟩ Ex ⟨_, A', r, q⟩ E')
theorem Go.cast (C : Ctx p s m meth c Z a0 ws own nm bytes ml ret) (X : St p l e R s m args below meth c n0 T h cells slots) {i : Nat} {K1 : String} {a : Addr} (w : Jvm.Cond.classLink own i K1 ∈ ws) (F : Ins Z h a K1 true) (hd : decode bytes pc = .ok (.checkcast i, 3)) (K : ∀ T', St p l e R s m args below meth c n0 T' h cells slots → Go p e below s n0 k n Q (T'.setTop (mkF m (pc + 3) Ls (.ref a :: rest)))) : Go p e below s n0 k n Q (T.setTop (mkF m pc Ls (.ref a :: rest))) := by
  obtain ⟨e0, hz, locs, N, X⟩ := X
  obtain ⟨T', X', e', st⟩ := Jvm.RoadKit.castY X C.hx C.hZ C.hown (C.w w) e0 F (g := mkF m pc Ls (.ref a :: rest)) rfl rfl (hb C.hby hd)
  exact Go.st st (K T' ⟨e', hz, locs, N, X'⟩)
theorem elemRef {args : Array Value} {s : State} {t t' : Term} {a x : Addr} {cl : Cell} {j : Int32} (q : (Jvm.Cond.eq (Term.elem t (Term.int j)) t').value args s none s [] = some true) (ht : t.eval args s none [] s = some (.ref a)) (ht' : t'.eval args s none [] s = some (.ref x)) (hc : s.heap[a]? = some cl) : cl.slots[j.toNatClampNeg]? = some (.ref x) := by
  obtain ⟨u, v, ha, hb, k1, k2⟩ := cmp_v (Or.inl q)
  rw [ht'] at hb
  cases hb
  have e := gotT (eq_R ha ht' k2.2 rfl) q
  subst e
  exact (elem_in ha ht (Term.int_eval j) hc).2
theorem fldI {args : Array Value} {s : State} {t : Term} {a : Addr} {C f d : String} {z : Int32} (q : (Jvm.Cond.eq (Term.field t C f d) (Term.int z)).value args s none s [] = some true) (ht : t.eval args s none [] s = some (.ref a)) : Fld s s.heap a C f d (.int z) := by
  have e := eqI_v q
  rw [fld_at ht] at e
  exact Fld.start e
theorem lenOf' {args : Array Value} {s : State} {t : Term} {a : Addr} {cl : Cell} {ty : FieldType} {z : Int32} (q : (Jvm.Cond.eq (Term.length t) (Term.int z)).value args s none s [] = some true) (ht : t.eval args s none [] s = some (.ref a)) (A : Arr s s.heap a cl ty) : cl.slots.size.toInt32 = z ∧ cl.slots.size < 2 ^ 31 := by
  obtain ⟨b, cell, h1, h2, h3, h4⟩ := Jvm.Lib.length_spec (eqI_v q)
  rw [ht] at h1
  cases h1
  rw [A.fin (Vm.Alike.refl _)] at h2
  cases h2
  exact ⟨(Value.int.inj h4).symm, h3⟩
theorem Go.newPE (C : Ctx p s m meth c Z a0 ws own nm bytes ml ret) (X : St p l e R s m args below meth c n0 T h cells slots) {aty : ArrayType} {z : Int32} {cap : Nat} {ad : String} (w : Jvm.Cond.arrayClass (newarray.typeOf aty) ∈ ws) (had : "[" ++ (newarray.typeOf aty).toString = ad) (hd : decode bytes pc = .ok (.newarray aty, 2)) (hn : ¬ z < 0) (hcap : z.toNatClampNeg ≤ cap) (hb8 : cap * 8 ≤ 536870912) (hc : cells + 1 ≤ R.cells) (hl : slots + cap ≤ R.slots)
    (K : ∀ T' h' b, h.size = b → n0 ≤ b → St p l e R s m args below meth c n0 T' h' (cells + 1) (slots + cap) → Ext h h' → AR Z h' b (newarray.typeOf aty) (List.replicate z.toNatClampNeg (defaultValue (newarray.typeOf aty))) → Exa Z h' b ad → Go p e below s n0 k n Q (T'.setTop (mkF m (pc + 2) Ls (.ref b :: rest)))) : Go p e below s n0 k n Q (T.setTop (mkF m pc Ls (.int z :: rest))) := by
  have hs := X.size
  obtain ⟨e0, hz, locs, N, X⟩ := X
  obtain ⟨T', h', cA, X', e', E, F, EX, st⟩ := Jvm.RoadKit.newPE X C.hx C.hZ (C.w w) e0 (g := mkF m pc Ls (.int z :: rest)) rfl (hb C.hby hd) rfl hn hcap hb8 hc hl had
  exact Go.st st (K T' h' _ rfl hs ⟨e', hz, _, N, X'⟩ E (AR.of F hn) EX)
theorem AF.zero {a : Addr} {N : Nat} (F : AR Z h a .byte (List.replicate N (.int (0 : Int32)))) : AF Z h a .byte (List.replicate N (.int (0 : Int32))) := by
  obtain ⟨c, A, r, q⟩ := F
  refine ⟨c, A, r, q, fitC_of A fun i hi v hv => ?_⟩
  rw [r, List.getElem?_toArray, List.getElem?_replicate] at hv
  split at hv
  · cases hv; rfl
  · cases hv
theorem AR.arv0 {a : Addr} {N : Nat} (F : AR Z h a .byte (List.replicate N (.int (0 : Int32)))) : ∃ k, Arv Z h a k .byte N.toInt32 (List.replicate N (.int (0 : Int32))) (.int (0 : Int32)) := by
  obtain ⟨c, A, r, q⟩ := F
  rw [List.length_replicate] at q
  have sz : c.slots.size = N := by rw [r]; simp
  have cN : N.toInt32.toNatClampNeg = N := by simp only [Int32.toNatClampNeg, len_toInt q]; rfl
  have g0 : ∀ i, (List.replicate N (Value.int (0 : Int32))).getD i (.int (0 : Int32)) = .int (0 : Int32) := fun i => by
    rw [List.getD_eq_getElem?_getD, List.getElem?_replicate]; split <;> rfl
  refine ⟨c.cls, c, A, rfl, by rw [sz, cN], ?_, fun i hi => ?_, fun i _ => by rw [g0]; rfl⟩
  · rw [Int32.lt_iff_toInt_lt, len_toInt q]
    have h0 : (0 : Int32).toInt = 0 := rfl
    omega
  · rw [g0, r]
    rw [sz] at hi
    simp [List.getElem?_replicate, hi]
theorem Arv.ar0 {a : Addr} {k : ClassId} {N : Nat} {vs : List Value} (hN : N < 2 ^ 31) (F : Arv Z h a k .byte N.toInt32 vs (.int (0 : Int32))) (hv : ∀ i, vs.getD i (.int (0 : Int32)) = .int (0 : Int32)) : AR Z h a .byte (List.replicate N (.int (0 : Int32))) := by
  obtain ⟨c, A, -, S, -, H, -⟩ := F
  have cN : N.toInt32.toNatClampNeg = N := by simp only [Int32.toNatClampNeg, len_toInt hN]; rfl
  rw [cN] at S
  refine ⟨c, A, ?_, by rw [List.length_replicate]; exact hN⟩
  apply Array.ext_getElem?
  intro i
  by_cases q : i < N
  · rw [H i (by omega), hv]; simp [List.getElem?_replicate, q]
  · rw [Array.getElem?_eq_none (by omega), Array.getElem?_eq_none (by simp; omega)]
theorem Go.acopy0 (C : Ctx p s m meth c Z a0 ws own nm bytes ml ret) (X : St p l e R s m args below meth c n0 T h cells slots) {i W : Nat} {a b : Addr} {n1 n2 : Nat} {nn : Int32} (w1 : Jvm.Cond.methodLink own i Jvm.Stand.acN ∈ ws) (w2 : Jvm.Cond.native Jvm.Stand.acN ∈ ws) (w3 : Jvm.Cond.static Jvm.Stand.acN ∈ ws) (w4 : Jvm.Cond.initialized "java/lang/System" ∈ ws) (F1 : AR Z h a .byte (List.replicate n1 (.int (0 : Int32)))) (F2 : AR Z h b .byte (List.replicate n2 (.int (0 : Int32)))) (hnn : ¬ nn < 0) (h1 : nn.toNatClampNeg ≤ n1) (h2 : nn.toNatClampNeg ≤ n2) (gb : n0 ≤ b) (hsz : Ls.size = ml)
    (hd : decode bytes pc = .ok (.invokestatic i, 3)) (hf : 1 ≤ R.frames) (hW : (rest.map fun v => v.category).sum ≤ W) (hlo : W + (nativeFrameWords "java/lang/System" "arraycopy" 5 + 11) ≤ R.locals)
    (K : ∀ T' h', St p l e R s m args below meth c n0 T' h' cells slots → Keep h h' [b] → AR Z h' b .byte (List.replicate n2 (.int (0 : Int32))) → Go p e below s n0 k n Q (T'.setTop (mkF m (pc + 3) Ls rest))) : Go p e below s n0 k n Q (T.setTop (mkF m pc Ls (.int nn :: .int 0 :: .ref b :: .int 0 :: .ref a :: rest))) := by
  obtain ⟨e0, hz, locs, N, X⟩ := X
  obtain ⟨k1, V1⟩ := F1.arv0
  obtain ⟨k2, V2⟩ := F2.arv0
  have q1 : n1 < 2 ^ 31 := by obtain ⟨_, _, _, q⟩ := F1; rw [List.length_replicate] at q; exact q
  have q2 : n2 < 2 ^ 31 := by obtain ⟨_, _, _, q⟩ := F2; rw [List.length_replicate] at q; exact q
  have c1 : n1.toInt32.toNatClampNeg = n1 := by simp only [Int32.toNatClampNeg, len_toInt q1]; rfl
  have c2 : n2.toInt32.toNatClampNeg = n2 := by simp only [Int32.toNatClampNeg, len_toInt q2]; rfl
  have z0 : (0 : Int32).toNatClampNeg = 0 := rfl
  obtain ⟨T', h', L, X', e', N', KK, V', st⟩ := cpA X C.hx C.hZ C.hown (C.w w1) (C.w w2) (C.w w3) (C.w w4) e0 V1 V2 (sp := 0) (dp := 0) (nn := nn) (Or.inl ⟨rfl, rfl⟩) (by decide) (by decide) hnn (by rw [z0, c1]; omega) (by rw [z0, c2]; omega) rfl (by rw [z0, List.length_replicate]; omega) N gb (g := mkF m pc Ls (.int nn :: .int 0 :: .ref b :: .int 0 :: .ref a :: rest)) rfl (hsz.trans C.hml.symm) rfl (hb C.hby hd) hf (W := W) (by show 2 * 0 + _ ≤ _; omega) hlo
  refine Go.st st (K T' h' ⟨e', hz, L, N', X'⟩ KK (Arv.ar0 q2 V' fun j => ?_))
  have g0 : ∀ (vs : List Value), (∀ x ∈ vs, x = .int (0 : Int32)) → vs.getD j (.int (0 : Int32)) = .int (0 : Int32) := fun vs hv => by
    rw [List.getD_eq_getElem?_getD]
    cases hq : vs[j]? with
    | none => rfl
    | some x => exact hv x (List.mem_of_getElem? hq)
  refine g0 _ fun x hx => ?_
  rcases List.mem_append.mp hx with hx | hx
  · rcases List.mem_append.mp hx with hx | hx
    · rw [z0] at hx; simp at hx
    · obtain ⟨y, -, rfl⟩ := List.mem_map.mp hx
      rw [List.getD_eq_getElem?_getD, List.getElem?_replicate]; split <;> rfl
  · exact (List.mem_replicate.mp (List.mem_of_mem_drop hx)).2
/-- an array of int arrays -/
def AO (Z : State) (h : Heap) (a : Addr) (vs : List Value) : Prop := ∃ c : Cell, Arr Z h a c (.array .int) ∧ c.slots = vs.toArray ∧ vs.length < 2 ^ 31 ∧ OvrA Z c.cls .int "[I"
theorem AO.ar {a : Addr} {vs : List Value} (F : AO Z h a vs) : AR Z h a (.array .int) vs := by obtain ⟨c, A, r, q, -⟩ := F; exact ⟨c, A, r, q⟩
theorem AO.lt {a : Addr} {vs : List Value} (F : AO Z h a vs) : a < h.size := F.ar.lt
theorem AO.ext {a : Addr} {vs : List Value} (F : AO Z h a vs) (E : Ext h h') : AO Z h' a vs := by obtain ⟨c, A, r⟩ := F; exact ⟨c, A.ext E, r⟩
theorem AO.other {a b : Addr} {vs : List Value} {sl : Nat} {v : Value} (F : AO Z h b vs) (W : Wr h h' a sl v) (q : b ≠ a) : AO Z h' b vs := by obtain ⟨c, A, r⟩ := F; exact ⟨c, A.other W q, r⟩
theorem AO.keep {a : Addr} {vs : List Value} {us : List Addr} (F : AO Z h a vs) (K : Keep h h' us) (q : a ∉ us) : AO Z h' a vs := by obtain ⟨c, A, r⟩ := F; exact ⟨c, ⟨K.2.1 a c A.1 q, A.2⟩, r⟩
theorem AO.same {a : Addr} {vs : List Value} {i : Nat} {v : Value} (F : AO Z h a vs) (W : Wr h h' a i v) : AO Z h' a (vs.set i v) := by
  obtain ⟨c, A, r, q, O⟩ := F
  refine ⟨_, A.same W, ?_, by rw [List.length_set]; exact q, O⟩
  simp [Cell.setSlot, r]
theorem Go.newRA (C : Ctx p s m meth c Z a0 ws own nm bytes ml ret) (X : St p l e R s m args below meth c n0 T h cells slots) {z : Int32} {i cap : Nat} (w1 : Jvm.Cond.classLink own i "[I" ∈ ws) (w2 : Jvm.Cond.arrayOver (.array .int) ∈ ws) (hd : decode bytes pc = .ok (.anewarray i, 3)) (hn : ¬ z < 0) (hcap : z.toNatClampNeg ≤ cap) (hb8 : cap * 8 ≤ 536870912) (hc : cells + 1 ≤ R.cells) (hl : slots + cap ≤ R.slots)
    (K : ∀ T' h' b, h.size = b → n0 ≤ b → St p l e R s m args below meth c n0 T' h' (cells + 1) (slots + cap) → Ext h h' → AO Z h' b (List.replicate z.toNatClampNeg .null) → Go p e below s n0 k n Q (T'.setTop (mkF m (pc + 3) Ls (.ref b :: rest)))) : Go p e below s n0 k n Q (T.setTop (mkF m pc Ls (.int z :: rest))) := by
  have hs := X.size
  obtain ⟨e0, hz, locs, N, X⟩ := X
  obtain ⟨T', h', cA, X', e', E, F, -, O, st⟩ := Jvm.RoadKit.newRA X C.hx C.hZ C.hown (C := "[I") (ty := .int) (by decide) (C.w w1) (C.w w2) e0 (g := mkF m pc Ls (.int z :: rest)) rfl (hb C.hby hd) rfl hn hcap hb8 hc hl (ad := "[[I") (by decide)
  exact Go.st st (K T' h' _ rfl hs ⟨e', hz, _, N, X'⟩ E ⟨_, F, by simp [newA, defaultValue], by rw [List.length_replicate]; exact (back32 hn).2, O⟩)
theorem Go.aastore (C : Ctx p s m meth c Z a0 ws own nm bytes ml ret) (X : St p l e R s m args below meth c n0 T h cells slots) {a y : Addr} {vs : List Value} {j : Int32} (F : AO Z h a vs) (I : Exa Z h y "[I") (hj : ¬ j < 0) (hl : j.toNatClampNeg < vs.length) (ha : n0 ≤ a) (hd : decode bytes pc = .ok (.aastore, 1)) (K : ∀ T' h', St p l e R s m args below meth c n0 T' h' cells slots → Wr h h' a j.toNatClampNeg (.ref y) → AO Z h' a (vs.set j.toNatClampNeg (.ref y)) → Go p e below s n0 k n Q (T'.setTop (mkF m (pc + 1) Ls rest))) : Go p e below s n0 k n Q (T.setTop (mkF m pc Ls (.ref y :: .int j :: .ref a :: rest))) := by
  obtain ⟨e0, hz, locs, N, X⟩ := X
  have F0 := F
  obtain ⟨cl, A, r, -, O⟩ := F
  obtain ⟨T', h', X', e', W, st⟩ := Jvm.RoadKit.stR X C.hx C.hZ e0 A (j := j) (v := .ref y) (AR.in (a := a) (ty := .array .int) r hj hl) rfl (Sto.ofVA A rfl O (Ins.self I)) (g := mkF m pc Ls (.ref y :: .int j :: .ref a :: rest)) rfl rfl (hb C.hby hd)
  exact Go.st st (K T' h' ⟨e', hz, _, Fr.snoc X' N ha, X'⟩ W (F0.same W))
end One
end Jvm.OwnGo
namespace Jvm.Pilot.@@N@@
open Jvm Jvm.ClassFile Sem Op Lib Jvm.Free Jvm.Stand Jvm.LawKit Jvm.RoadKit Bundle Jvm.OwnGo Jvm.Pilot.@@N@@.Jvm.D
theorem cl32 {i : Nat} (h : i < 2147483648) : i.toInt32.toNatClampNeg = i := by
  simp only [Int32.toNatClampNeg, len_toInt h]; rfl
theorem nn32 {i : Nat} (h : i < 2147483648) : ¬ i.toInt32 < 0 := by
  rw [Int32.lt_iff_toInt_lt, len_toInt h]
  have h0 : (0 : Int32).toInt = 0 := rfl
  omega
theorem ltI {i j : Nat} (hi : i < 1000) (hj : j < 1000) : i.toInt32 < j.toInt32 ↔ i < j := by
  rw [Int32.lt_iff_toInt_lt, len_toInt (by omega), len_toInt (by omega)]; omega
theorem eqI {i j : Nat} (hi : i < 1000) (hj : j < 1000) : i.toInt32 = j.toInt32 ↔ i = j := by
  rw [← Int32.toInt_inj, len_toInt (by omega), len_toInt (by omega)]; omega
theorem inc32 (i : Nat) : i.toInt32 + (1 : Int32) = (i + 1).toInt32 := by
  apply Int32.toBitVec_inj.mp
  show BitVec.ofNat 32 i + BitVec.ofNat 32 1 = BitVec.ofNat 32 (i + 1)
  rw [BitVec.ofNat_add]
def cnt (fs : Nat → Nat) : Nat → Nat → Nat
  | 0, _ => 0
  | i + 1, x => if x = fs i then cnt fs i x + 1 else cnt fs i x
def dgV (c : Nat) (d : Nat → Nat) : List Value := (List.range c).map (fun x => .int (d x).toInt32)
def frV (n : Nat) (fs : Nat → Nat) : List Value := (List.range n).map (fun j => .int (fs j).toInt32)
def tsV (n : Nat) (ts : Nat → Int32) : List Value := (List.range n).map (fun j => .int (ts j))
def ouV (c i : Nat) (rs : Nat → Addr) : List Value := (List.range c).map (fun x => if x < i then .ref (rs x) else .null)
def d2 (fs : Nat → Nat) (n i x : Nat) : Nat := if x < i then 0 else cnt fs n x
def upd (rs : Nat → Addr) (i : Nat) (b : Addr) : Nat → Addr := fun x => if x = i then b else rs x
def rowP (fs : Nat → Nat) (ts : Nat → Int32) (n : Nat) : Nat → Nat → List Int32
  | 0, x => List.replicate (cnt fs n x) 0
  | i + 1, x => if x = fs i then (rowP fs ts n i x).set (cnt fs i x) (ts i) else rowP fs ts n i x
theorem map_get {α : Type} (c : Nat) (g : Nat → α) {t : Nat} (h : t < c) : ((List.range c).map g)[t]? = some (g t) := by
  rw [List.getElem?_map, List.getElem?_range h]; rfl
theorem map_set {α : Type} (c : Nat) (g g' : Nat → α) {t : Nat} (v : α) (ht : g' t = v) (hg : ∀ x, x < c → x ≠ t → g' x = g x) : ((List.range c).map g).set t v = (List.range c).map g' := by
  apply List.ext_getElem?
  intro j
  rw [List.getElem?_set]
  by_cases q : t = j
  · subst q
    rw [if_pos rfl]
    by_cases r : t < c
    · rw [if_pos (by simpa using r), map_get c g' r, ht]
    · rw [if_neg (by simpa using r), List.getElem?_eq_none (by simpa using r)]
  · rw [if_neg q]
    by_cases r : j < c
    · rw [map_get c g r, map_get c g' r, hg j r (fun u => q u.symm)]
    · rw [List.getElem?_eq_none (by simpa using r), List.getElem?_eq_none (by simpa using r)]
theorem map_same {α : Type} (c : Nat) (g g' : Nat → α) (hg : ∀ x, x < c → g x = g' x) : (List.range c).map g = (List.range c).map g' := by
  apply List.map_congr_left
  intro x hx
  exact hg x (List.mem_range.mp hx)
theorem cnt_le (fs : Nat → Nat) : ∀ i x, cnt fs i x ≤ i
  | 0, _ => Nat.le_refl _
  | i + 1, x => by
    have := cnt_le fs i x
    unfold cnt; split <;> omega
theorem cnt_mono (fs : Nat → Nat) (x : Nat) : ∀ k i, cnt fs i x ≤ cnt fs (i + k) x
  | 0, i => Nat.le_refl _
  | k + 1, i => by
    have := cnt_mono fs x k i
    show _ ≤ (if x = fs (i + k) then cnt fs (i + k) x + 1 else cnt fs (i + k) x)
    split <;> omega
theorem cnt_lt (fs : Nat → Nat) {i n : Nat} (h : i < n) : cnt fs i (fs i) < cnt fs n (fs i) := by
  have := cnt_mono fs (fs i) (n - (i + 1)) (i + 1)
  rw [show i + 1 + (n - (i + 1)) = n by omega] at this
  have e : cnt fs (i + 1) (fs i) = cnt fs i (fs i) + 1 := by
    show (if fs i = fs i then _ else _) = _
    rw [if_pos rfl]
  omega
theorem row_len (fs : Nat → Nat) (ts : Nat → Int32) (n : Nat) : ∀ i x, (rowP fs ts n i x).length = cnt fs n x
  | 0, x => by unfold rowP; rw [List.length_replicate]
  | i + 1, x => by
    have := row_len fs ts n i x
    unfold rowP; split
    · rw [List.length_set]; exact this
    · exact this
theorem dg_len (c : Nat) (d : Nat → Nat) : (dgV c d).length = c := by simp [dgV]
theorem fr_len (n : Nat) (fs : Nat → Nat) : (frV n fs).length = n := by simp [frV]
theorem ts_len (n : Nat) (ts : Nat → Int32) : (tsV n ts).length = n := by simp [tsV]
theorem ou_len (c i : Nat) (rs : Nat → Addr) : (ouV c i rs).length = c := by simp [ouV]
theorem dg_get {c : Nat} {d : Nat → Nat} {t : Nat} (hc : c ≤ 4) (h : t < c) : (dgV c d)[t.toInt32.toNatClampNeg]? = some (.int (d t).toInt32) := by
  rw [cl32 (by omega)]; exact map_get c _ h
theorem fr_get {n : Nat} {fs : Nat → Nat} {t : Nat} (hn : n ≤ 4) (h : t < n) : (frV n fs)[t.toInt32.toNatClampNeg]? = some (.int (fs t).toInt32) := by
  rw [cl32 (by omega)]; exact map_get n _ h
theorem ts_get {n : Nat} {ts : Nat → Int32} {t : Nat} (hn : n ≤ 4) (h : t < n) : (tsV n ts)[t.toInt32.toNatClampNeg]? = some (.int (ts t)) := by
  rw [cl32 (by omega)]; exact map_get n _ h
theorem ou_get {c : Nat} {rs : Nat → Addr} {t : Nat} (hc : c ≤ 4) (h : t < c) : (ouV c c rs)[t.toInt32.toNatClampNeg]? = some (.ref (rs t)) := by
  rw [cl32 (by omega)]
  have := map_get c (fun x => if x < c then Value.ref (rs x) else .null) h
  simp only [h, if_true] at this
  exact this
theorem dg_inc {c : Nat} {fs : Nat → Nat} {i : Nat} (hc : c ≤ 4) (h : fs i < c) : (dgV c (cnt fs i)).set (fs i).toInt32.toNatClampNeg (.int ((cnt fs i (fs i)).toInt32 + (1 : Int32))) = dgV c (cnt fs (i + 1)) := by
  rw [cl32 (by omega), inc32]
  refine map_set c _ _ _ ?_ fun x _ hx => ?_
  · show Value.int (Nat.toInt32 (if fs i = fs i then _ else _)) = _
    rw [if_pos rfl]
  · show Value.int (Nat.toInt32 (if x = fs i then _ else _)) = _
    rw [if_neg hx]
theorem dg_zero (c : Nat) (fs : Nat → Nat) : List.replicate c (.int (0 : Int32)) = dgV c (cnt fs 0) := by
  apply List.ext_getElem?
  intro j
  rw [List.getElem?_replicate]
  by_cases q : j < c
  · rw [if_pos q]; exact (map_get c (fun x => Value.int (cnt fs 0 x).toInt32) q).symm
  · rw [if_neg q, List.getElem?_eq_none (by rw [dg_len]; omega)]
theorem dg_clear {c : Nat} {fs : Nat → Nat} {n i : Nat} (hc : c ≤ 4) (h : i < c) : (dgV c (d2 fs n i)).set i.toInt32.toNatClampNeg (.int (0 : Int32)) = dgV c (d2 fs n (i + 1)) := by
  rw [cl32 (by omega)]
  refine map_set c _ _ _ ?_ fun x _ hx => ?_
  · show Value.int (Nat.toInt32 (if i < i + 1 then _ else _)) = _
    rw [if_pos (by omega)]; rfl
  · show Value.int (Nat.toInt32 (if x < i + 1 then _ else _)) = Value.int (Nat.toInt32 (if x < i then _ else _))
    by_cases q : x < i
    · rw [if_pos q, if_pos (by omega)]
    · rw [if_neg q, if_neg (by omega)]
theorem d2_zero (c : Nat) (fs : Nat → Nat) (n : Nat) : dgV c (cnt fs n) = dgV c (d2 fs n 0) := rfl
theorem d2_end (c : Nat) (fs : Nat → Nat) (n : Nat) : dgV c (d2 fs n c) = dgV c (cnt fs 0) := by
  refine map_same c _ _ fun x hx => ?_
  show Value.int (Nat.toInt32 (if x < c then _ else _)) = _
  rw [if_pos hx]; rfl
theorem d2_at (fs : Nat → Nat) (n i : Nat) : d2 fs n i i = cnt fs n i := by unfold d2; rw [if_neg (by omega)]
theorem ou_zero (c : Nat) (rs : Nat → Addr) : List.replicate c Value.null = ouV c 0 rs := by
  apply List.ext_getElem?
  intro j
  rw [List.getElem?_replicate]
  by_cases q : j < c
  · rw [if_pos q]; exact (map_get c (fun x => if x < 0 then Value.ref (rs x) else .null) q).symm
  · rw [if_neg q, List.getElem?_eq_none (by rw [ou_len]; omega)]
theorem ou_set {c i : Nat} {rs : Nat → Addr} {b : Addr} (hc : c ≤ 4) (h : i < c) : (ouV c i rs).set i.toInt32.toNatClampNeg (.ref b) = ouV c (i + 1) (upd rs i b) := by
  rw [cl32 (by omega)]
  refine map_set c _ _ _ ?_ fun x _ hx => ?_
  · show (if i < i + 1 then Value.ref (if i = i then b else rs i) else _) = _
    rw [if_pos (by omega), if_pos rfl]
  · show (if x < i + 1 then Value.ref (if x = i then b else rs x) else _) = (if x < i then Value.ref (rs x) else _)
    rw [if_neg hx]
    by_cases q : x < i
    · rw [if_pos q, if_pos (by omega)]
    · rw [if_neg q, if_neg (by omega)]
theorem row0 (fs : Nat → Nat) (ts : Nat → Int32) (n x : Nat) : List.replicate (cnt fs n x) (.int (0 : Int32)) = (rowP fs ts n 0 x).map Value.int := by
  unfold rowP; rw [List.map_replicate]
theorem row_set {fs : Nat → Nat} {ts : Nat → Int32} {n i : Nat} (hn : n ≤ 4) (h : i < n) : ((rowP fs ts n i (fs i)).map Value.int).set (cnt fs i (fs i)).toInt32.toNatClampNeg (.int (ts i)) = (rowP fs ts n (i + 1) (fs i)).map Value.int := by
  have := cnt_le fs i (fs i)
  rw [cl32 (by omega), ← List.map_set]
  congr 1
  show _ = (if fs i = fs i then _ else _)
  rw [if_pos rfl]
theorem row_other {fs : Nat → Nat} {ts : Nat → Int32} {n i x : Nat} (h : x ≠ fs i) : rowP fs ts n (i + 1) x = rowP fs ts n i x := by
  show (if x = fs i then _ else _) = _
  rw [if_neg h]
theorem upd_eq (rs : Nat → Addr) (i : Nat) (b : Addr) : upd rs i b i = b := by unfold upd; rw [if_pos rfl]
theorem upd_ne (rs : Nat → Addr) {i x : Nat} (b : Addr) (h : x ≠ i) : upd rs i b x = rs x := by unfold upd; rw [if_neg h]
theorem upd_all {P : Addr → Prop} {rs : Nat → Addr} {i : Nat} {b : Addr} (h : ∀ x, x < i → P (rs x)) (hb : P b) : ∀ x, x < i + 1 → P (upd rs i b x) := fun x hx => by
  by_cases q : x = i
  · rw [q, upd_eq]; exact hb
  · rw [upd_ne rs b q]; exact h x (by omega)
theorem upd_dr {rs : Nat → Addr} {i : Nat} {b : Addr} (h : ∀ x y, x < i → y < i → x ≠ y → rs x ≠ rs y) (hb : ∀ x, x < i → rs x ≠ b) : ∀ x y, x < i + 1 → y < i + 1 → x ≠ y → upd rs i b x ≠ upd rs i b y := fun x y hx hy hn => by
  by_cases q : x = i
  · subst q
    rw [upd_eq, upd_ne rs b (fun u => hn u.symm)]; exact (hb y (by omega)).symm
  · by_cases r : y = i
    · subst r
      rw [upd_eq, upd_ne rs b q]; exact hb x (by omega)
    · rw [upd_ne rs b q, upd_ne rs b r]; exact h x y (by omega) (by omega) hn
theorem upd_rows {Z : State} {h : Heap} {rs : Nat → Addr} {i : Nat} {b : Addr} {L : Nat → List Value} (F : ∀ x, x < i → AR Z h (rs x) .int (L x)) (B : AR Z h b .int (L i)) : ∀ x, x < i + 1 → AR Z h (upd rs i b x) .int (L x) := fun x hx => by
  by_cases q : x = i
  · rw [q, upd_eq]; exact B
  · rw [upd_ne rs b q]; exact F x (by omega)
def tsI : Nat → Int32 := fun j => j.toInt32
theorem d3_0 : decode prog_77_method_11_code 0 = .ok (.aload_n 0, 1) := by decide +kernel
theorem d3_1 : decode prog_77_method_11_code 1 = .ok (.getfield 13, 3) := by decide +kernel
theorem d3_4 : decode prog_77_method_11_code 4 = .ok (.newarray .int, 2) := by decide +kernel
theorem d3_6 : decode prog_77_method_11_code 6 = .ok (.astore_n 1, 1) := by decide +kernel
theorem d3_7 : decode prog_77_method_11_code 7 = .ok (.aload_n 0, 1) := by decide +kernel
theorem d3_8 : decode prog_77_method_11_code 8 = .ok (.getfield 19, 3) := by decide +kernel
theorem d3_11 : decode prog_77_method_11_code 11 = .ok (.astore_n 2, 1) := by decide +kernel
theorem d3_12 : decode prog_77_method_11_code 12 = .ok (.aload_n 2, 1) := by decide +kernel
theorem d3_13 : decode prog_77_method_11_code 13 = .ok (.arraylength, 1) := by decide +kernel
theorem d3_14 : decode prog_77_method_11_code 14 = .ok (.istore_n 3, 1) := by decide +kernel
theorem d3_15 : decode prog_77_method_11_code 15 = .ok (.iconst 0, 1) := by decide +kernel
theorem d3_16 : decode prog_77_method_11_code 16 = .ok (.istore 4, 2) := by decide +kernel
theorem d3_18 : decode prog_77_method_11_code 18 = .ok (.iload 4, 2) := by decide +kernel
theorem d3_20 : decode prog_77_method_11_code 20 = .ok (.iload_n 3, 1) := by decide +kernel
theorem d3_21 : decode prog_77_method_11_code 21 = .ok (.if_icmp .ge 23, 3) := by decide +kernel
theorem d3_24 : decode prog_77_method_11_code 24 = .ok (.aload_n 2, 1) := by decide +kernel
theorem d3_25 : decode prog_77_method_11_code 25 = .ok (.iload 4, 2) := by decide +kernel
theorem d3_27 : decode prog_77_method_11_code 27 = .ok (.iaload, 1) := by decide +kernel
theorem d3_28 : decode prog_77_method_11_code 28 = .ok (.istore 5, 2) := by decide +kernel
theorem d3_30 : decode prog_77_method_11_code 30 = .ok (.aload_n 1, 1) := by decide +kernel
theorem d3_31 : decode prog_77_method_11_code 31 = .ok (.iload 5, 2) := by decide +kernel
theorem d3_33 : decode prog_77_method_11_code 33 = .ok (.dup2, 1) := by decide +kernel
theorem d3_34 : decode prog_77_method_11_code 34 = .ok (.iaload, 1) := by decide +kernel
theorem d3_35 : decode prog_77_method_11_code 35 = .ok (.iconst 1, 1) := by decide +kernel
theorem d3_36 : decode prog_77_method_11_code 36 = .ok (.iadd, 1) := by decide +kernel
theorem d3_37 : decode prog_77_method_11_code 37 = .ok (.iastore, 1) := by decide +kernel
theorem d3_38 : decode prog_77_method_11_code 38 = .ok (.iinc 4 1, 3) := by decide +kernel
theorem d3_41 : decode prog_77_method_11_code 41 = .ok (.goto (-23), 3) := by decide +kernel
theorem d3_44 : decode prog_77_method_11_code 44 = .ok (.aload_n 0, 1) := by decide +kernel
theorem d3_45 : decode prog_77_method_11_code 45 = .ok (.getfield 13, 3) := by decide +kernel
theorem d3_48 : decode prog_77_method_11_code 48 = .ok (.anewarray 79, 3) := by decide +kernel
theorem d3_51 : decode prog_77_method_11_code 51 = .ok (.astore_n 2, 1) := by decide +kernel
theorem d3_52 : decode prog_77_method_11_code 52 = .ok (.iconst 0, 1) := by decide +kernel
theorem d3_53 : decode prog_77_method_11_code 53 = .ok (.istore_n 3, 1) := by decide +kernel
theorem d3_54 : decode prog_77_method_11_code 54 = .ok (.iload_n 3, 1) := by decide +kernel
theorem d3_55 : decode prog_77_method_11_code 55 = .ok (.aload_n 0, 1) := by decide +kernel
theorem d3_56 : decode prog_77_method_11_code 56 = .ok (.getfield 13, 3) := by decide +kernel
theorem d3_59 : decode prog_77_method_11_code 59 = .ok (.if_icmp .ge 21, 3) := by decide +kernel
theorem d3_62 : decode prog_77_method_11_code 62 = .ok (.aload_n 2, 1) := by decide +kernel
theorem d3_63 : decode prog_77_method_11_code 63 = .ok (.iload_n 3, 1) := by decide +kernel
theorem d3_64 : decode prog_77_method_11_code 64 = .ok (.aload_n 1, 1) := by decide +kernel
theorem d3_65 : decode prog_77_method_11_code 65 = .ok (.iload_n 3, 1) := by decide +kernel
theorem d3_66 : decode prog_77_method_11_code 66 = .ok (.iaload, 1) := by decide +kernel
theorem d3_67 : decode prog_77_method_11_code 67 = .ok (.newarray .int, 2) := by decide +kernel
theorem d3_69 : decode prog_77_method_11_code 69 = .ok (.aastore, 1) := by decide +kernel
theorem d3_70 : decode prog_77_method_11_code 70 = .ok (.aload_n 1, 1) := by decide +kernel
theorem d3_71 : decode prog_77_method_11_code 71 = .ok (.iload_n 3, 1) := by decide +kernel
theorem d3_72 : decode prog_77_method_11_code 72 = .ok (.iconst 0, 1) := by decide +kernel
theorem d3_73 : decode prog_77_method_11_code 73 = .ok (.iastore, 1) := by decide +kernel
theorem d3_74 : decode prog_77_method_11_code 74 = .ok (.iinc 3 1, 3) := by decide +kernel
theorem d3_77 : decode prog_77_method_11_code 77 = .ok (.goto (-23), 3) := by decide +kernel
theorem d3_80 : decode prog_77_method_11_code 80 = .ok (.iconst 0, 1) := by decide +kernel
theorem d3_81 : decode prog_77_method_11_code 81 = .ok (.istore_n 3, 1) := by decide +kernel
theorem d3_82 : decode prog_77_method_11_code 82 = .ok (.iload_n 3, 1) := by decide +kernel
theorem d3_83 : decode prog_77_method_11_code 83 = .ok (.aload_n 0, 1) := by decide +kernel
theorem d3_84 : decode prog_77_method_11_code 84 = .ok (.getfield 19, 3) := by decide +kernel
theorem d3_87 : decode prog_77_method_11_code 87 = .ok (.arraylength, 1) := by decide +kernel
theorem d3_88 : decode prog_77_method_11_code 88 = .ok (.if_icmp .ge 32, 3) := by decide +kernel
theorem d3_91 : decode prog_77_method_11_code 91 = .ok (.aload_n 2, 1) := by decide +kernel
theorem d3_92 : decode prog_77_method_11_code 92 = .ok (.aload_n 0, 1) := by decide +kernel
theorem d3_93 : decode prog_77_method_11_code 93 = .ok (.getfield 19, 3) := by decide +kernel
theorem d3_96 : decode prog_77_method_11_code 96 = .ok (.iload_n 3, 1) := by decide +kernel
theorem d3_97 : decode prog_77_method_11_code 97 = .ok (.iaload, 1) := by decide +kernel
theorem d3_98 : decode prog_77_method_11_code 98 = .ok (.aaload, 1) := by decide +kernel
theorem d3_99 : decode prog_77_method_11_code 99 = .ok (.aload_n 1, 1) := by decide +kernel
theorem d3_100 : decode prog_77_method_11_code 100 = .ok (.aload_n 0, 1) := by decide +kernel
theorem d3_101 : decode prog_77_method_11_code 101 = .ok (.getfield 19, 3) := by decide +kernel
theorem d3_104 : decode prog_77_method_11_code 104 = .ok (.iload_n 3, 1) := by decide +kernel
theorem d3_105 : decode prog_77_method_11_code 105 = .ok (.iaload, 1) := by decide +kernel
theorem d3_106 : decode prog_77_method_11_code 106 = .ok (.dup2, 1) := by decide +kernel
theorem d3_107 : decode prog_77_method_11_code 107 = .ok (.iaload, 1) := by decide +kernel
theorem d3_108 : decode prog_77_method_11_code 108 = .ok (.dup_x2, 1) := by decide +kernel
theorem d3_109 : decode prog_77_method_11_code 109 = .ok (.iconst 1, 1) := by decide +kernel
theorem d3_110 : decode prog_77_method_11_code 110 = .ok (.iadd, 1) := by decide +kernel
theorem d3_111 : decode prog_77_method_11_code 111 = .ok (.iastore, 1) := by decide +kernel
theorem d3_112 : decode prog_77_method_11_code 112 = .ok (.iload_n 3, 1) := by decide +kernel
theorem d3_113 : decode prog_77_method_11_code 113 = .ok (.iastore, 1) := by decide +kernel
theorem d3_114 : decode prog_77_method_11_code 114 = .ok (.iinc 3 1, 3) := by decide +kernel
theorem d3_117 : decode prog_77_method_11_code 117 = .ok (.goto (-35), 3) := by decide +kernel
theorem d3_120 : decode prog_77_method_11_code 120 = .ok (.aload_n 2, 1) := by decide +kernel
theorem d3_121 : decode prog_77_method_11_code 121 = .ok (.areturn, 1) := by decide +kernel
theorem pf_3 : plainFor (⟨"com/example/layrd/layrd/layout/LayeredGraph", "itemOrder", "()[[I"⟩ : MethodName) = true := plainFor_of_name (by first | (simp [plainName, overriddenIn]; done) | decide +kernel)
theorem pd_3 : parseMethodDescriptor "()[[I" = some ⟨[], some (.array (.array .int))⟩ := by decide +kernel
set_option maxRecDepth 65536 in
set_option maxHeartbeats 40000000 in
theorem loop3 {p : Program} {l : Launch} {e : Env} {R : Room} {s : State} {m : MethodId} {args : Array Value} {below : List Frame} {meth : Method} {c : Code} {Z : State} {a0 : Array Value} {n0 kc kn cells slots : Nat} {Q : Option Value → Heap → Prop} (C : Ctx p s m meth c Z a0 tables_1 "com/example/layrd/layrd/layout/LayeredGraph" "itemOrder" prog_77_method_11_code 6 (some (.array (.array .int)))) (cc n : Nat) (hc : cc ≤ 4) (hn : n ≤ 4) (fs : Nat → Nat) (hfs : ∀ j, j < n → fs j < cc) (q a1 a3 : Addr) (h0 : Heap) (g3 : n0 ≤ a3) (old_a3 : h0.size ≤ a3) (n13 : a1 ≠ a3) (nq3 : q ≠ a3) (a4 : Addr) (g4 : n0 ≤ a4) (old_a4 : h0.size ≤ a4) (n14 : a1 ≠ a4) (nq4 : q ≠ a4) (n34 : a3 ≠ a4) (s4 s5 : Slot) (rs : Nat → Addr) (gr : ∀ x, x < cc → n0 ≤ rs x) (oldr : ∀ x, x < cc → h0.size ≤ rs x) (r1 : ∀ x, x < cc → rs x ≠ a1) (rq : ∀ x, x < cc → rs x ≠ q) (r3 : ∀ x, x < cc → rs x ≠ a3) (r4 : ∀ x, x < cc → rs x ≠ a4) (dr : ∀ x y, x < cc → y < cc → x ≠ y → rs x ≠ rs y) (hkc : cells ≤ kc) (hkn : slots ≤ kn) (hQ : ∀ v h, (∃ b rs, v = some (.ref b) ∧ AO Z h b (ouV cc cc rs) ∧ (∀ x, x < cc → AR Z h (rs x) .int ((rowP fs tsI n n x).map Value.int)) ∧ Keep h0 h []) → Q v h) : ∀ (k i : Nat) (T : State) (h : Heap), i + k = n → St p l e R s m args below meth c n0 T h cells slots → AR Z h a1 .int (frV n fs) → Fld Z h q "com/example/layrd/layrd/layout/LayeredGraph" "layers" "I" (.int cc.toInt32) → Fld Z h q "com/example/layrd/layrd/layout/LayeredGraph" "itemLayer" "[I" (.ref a1) → AR Z h a3 .int (dgV cc (cnt fs i)) → AO Z h a4 (ouV cc cc rs) → (∀ x, x < cc → AR Z h (rs x) .int ((rowP fs tsI n i x).map Value.int)) → Keep h0 h [] →
    Go p e below s n0 kc kn Q (T.setTop (mkF m 82 #[rv q, rv a3, rv a4, iv i.toInt32, s4, s5] [])) := by
  intro k
  induction k with
  | zero =>
    intro i T h hi X A1 FL FI A3 O4 RF KK
    obtain rfl : i = n := by omega
    show Go p e below s n0 _ _ _ (T.setTop (mkF m 82 #[rv q, rv a3, rv a4, iv i.toInt32, s4, s5] []))
    refine Go.st (fun _ => XS.iloadN X.here C.hx rfl (hb C.hby d3_82) rfl) ?_
    show Go p e below s n0 _ _ _ (T.setTop (mkF m 83 #[rv q, rv a3, rv a4, iv i.toInt32, s4, s5] [(.int i.toInt32)]))
    refine Go.st (fun _ => XS.aloadN X.here C.hx rfl (hb C.hby d3_83) rfl rfl) ?_
    show Go p e below s n0 _ _ _ (T.setTop (mkF m 84 #[rv q, rv a3, rv a4, iv i.toInt32, s4, s5] [(.ref q), (.int i.toInt32)]))
    refine Go.getF C X (wd 14 rfl) FI d3_84 (fun T101 X101 => ?_)
    show Go p e below s n0 _ _ _ (T101.setTop (mkF m 87 #[rv q, rv a3, rv a4, iv i.toInt32, s4, s5] [(.ref a1), (.int i.toInt32)]))
    refine Go.alen C X101 A1 (z := i.toInt32) (by rw [fr_len]) d3_87 ?_
    show Go p e below s n0 _ _ _ (T101.setTop (mkF m 88 #[rv q, rv a3, rv a4, iv i.toInt32, s4, s5] [(.int i.toInt32), (.int i.toInt32)]))
    refine Go.icmp_ge C X101 (pc' := 120) d3_88 (by decide) (by decide) (fun _ => ?_) (fun hc => by first | exact absurd hc (irr _) | exact absurd (irr _) hc)
    show Go p e below s n0 _ _ _ (T101.setTop (mkF m 120 #[rv q, rv a3, rv a4, iv i.toInt32, s4, s5] []))
    refine Go.st (fun _ => XS.aloadN X101.here C.hx rfl (hb C.hby d3_120) rfl rfl) ?_
    show Go p e below s n0 _ _ _ (T101.setTop (mkF m 121 #[rv q, rv a3, rv a4, iv i.toInt32, s4, s5] [(.ref a4)]))
    exact Go.retA C X101 rfl rfl d3_121 (hQ _ _ ⟨a4, rs, rfl, O4, RF, KK⟩) hkc hkn
  | succ k ih =>
    intro i T h hi X A1 FL FI A3 O4 RF KK
    have hlt : i.toInt32 < n.toInt32 := (ltI (by omega) (by omega)).mpr (by omega)
    have hti : fs i < cc := hfs i (by omega)
    have hcl := cnt_le fs i (fs i)
    have old_rs := oldr (fs i) hti
    show Go p e below s n0 _ _ _ (T.setTop (mkF m 82 #[rv q, rv a3, rv a4, iv i.toInt32, s4, s5] []))
    refine Go.st (fun _ => XS.iloadN X.here C.hx rfl (hb C.hby d3_82) rfl) ?_
    show Go p e below s n0 _ _ _ (T.setTop (mkF m 83 #[rv q, rv a3, rv a4, iv i.toInt32, s4, s5] [(.int i.toInt32)]))
    refine Go.st (fun _ => XS.aloadN X.here C.hx rfl (hb C.hby d3_83) rfl rfl) ?_
    show Go p e below s n0 _ _ _ (T.setTop (mkF m 84 #[rv q, rv a3, rv a4, iv i.toInt32, s4, s5] [(.ref q), (.int i.toInt32)]))
    refine Go.getF C X (wd 14 rfl) FI d3_84 (fun T103 X103 => ?_)
    show Go p e below s n0 _ _ _ (T103.setTop (mkF m 87 #[rv q, rv a3, rv a4, iv i.toInt32, s4, s5] [(.ref a1), (.int i.toInt32)]))
    refine Go.alen C X103 A1 (z := n.toInt32) (by rw [fr_len]) d3_87 ?_
    show Go p e below s n0 _ _ _ (T103.setTop (mkF m 88 #[rv q, rv a3, rv a4, iv i.toInt32, s4, s5] [(.int n.toInt32), (.int i.toInt32)]))
    refine Go.icmp_ge C X103 (pc' := 120) d3_88 (by decide) (by decide) (fun hc => by first | exact absurd hc hlt | exact absurd hlt hc) (fun _ => ?_)
    show Go p e below s n0 _ _ _ (T103.setTop (mkF m 91 #[rv q, rv a3, rv a4, iv i.toInt32, s4, s5] []))
    refine Go.st (fun _ => XS.aloadN X103.here C.hx rfl (hb C.hby d3_91) rfl rfl) ?_
    show Go p e below s n0 _ _ _ (T103.setTop (mkF m 92 #[rv q, rv a3, rv a4, iv i.toInt32, s4, s5] [(.ref a4)]))
    refine Go.st (fun _ => XS.aloadN X103.here C.hx rfl (hb C.hby d3_92) rfl rfl) ?_
    show Go p e below s n0 _ _ _ (T103.setTop (mkF m 93 #[rv q, rv a3, rv a4, iv i.toInt32, s4, s5] [(.ref q), (.ref a4)]))
    refine Go.getF C X103 (wd 14 rfl) FI d3_93 (fun T105 X105 => ?_)
    show Go p e below s n0 _ _ _ (T105.setTop (mkF m 96 #[rv q, rv a3, rv a4, iv i.toInt32, s4, s5] [(.ref a1), (.ref a4)]))
    refine Go.st (fun _ => XS.iloadN X105.here C.hx rfl (hb C.hby d3_96) rfl) ?_
    show Go p e below s n0 _ _ _ (T105.setTop (mkF m 97 #[rv q, rv a3, rv a4, iv i.toInt32, s4, s5] [(.int i.toInt32), (.ref a1), (.ref a4)]))
    refine Go.iaload C X105 A1 (nn32 (by omega)) (fr_get hn (by omega)) d3_97 ?_
    show Go p e below s n0 _ _ _ (T105.setTop (mkF m 98 #[rv q, rv a3, rv a4, iv i.toInt32, s4, s5] [(.int (fs i).toInt32), (.ref a4)]))
    refine Go.aaload C X105 (O4).ar rfl (nn32 (by omega)) (ou_get hc hti) d3_98 ?_
    show Go p e below s n0 _ _ _ (T105.setTop (mkF m 99 #[rv q, rv a3, rv a4, iv i.toInt32, s4, s5] [(.ref (rs (fs i)))]))
    refine Go.st (fun _ => XS.aloadN X105.here C.hx rfl (hb C.hby d3_99) rfl rfl) ?_
    show Go p e below s n0 _ _ _ (T105.setTop (mkF m 100 #[rv q, rv a3, rv a4, iv i.toInt32, s4, s5] [(.ref a3), (.ref (rs (fs i)))]))
    refine Go.st (fun _ => XS.aloadN X105.here C.hx rfl (hb C.hby d3_100) rfl rfl) ?_
    show Go p e below s n0 _ _ _ (T105.setTop (mkF m 101 #[rv q, rv a3, rv a4, iv i.toInt32, s4, s5] [(.ref q), (.ref a3), (.ref (rs (fs i)))]))
    refine Go.getF C X105 (wd 14 rfl) FI d3_101 (fun T106 X106 => ?_)
    show Go p e below s n0 _ _ _ (T106.setTop (mkF m 104 #[rv q, rv a3, rv a4, iv i.toInt32, s4, s5] [(.ref a1), (.ref a3), (.ref (rs (fs i)))]))
    refine Go.st (fun _ => XS.iloadN X106.here C.hx rfl (hb C.hby d3_104) rfl) ?_
    show Go p e below s n0 _ _ _ (T106.setTop (mkF m 105 #[rv q, rv a3, rv a4, iv i.toInt32, s4, s5] [(.int i.toInt32), (.ref a1), (.ref a3), (.ref (rs (fs i)))]))
    refine Go.iaload C X106 A1 (nn32 (by omega)) (fr_get hn (by omega)) d3_105 ?_
    show Go p e below s n0 _ _ _ (T106.setTop (mkF m 106 #[rv q, rv a3, rv a4, iv i.toInt32, s4, s5] [(.int (fs i).toInt32), (.ref a3), (.ref (rs (fs i)))]))
    refine Go.st (fun _ => XT.dup2 X106.here C.hx rfl (hb C.hby d3_106) rfl rfl rfl) ?_
    show Go p e below s n0 _ _ _ (T106.setTop (mkF m 107 #[rv q, rv a3, rv a4, iv i.toInt32, s4, s5] [(.int (fs i).toInt32), (.ref a3), (.int (fs i).toInt32), (.ref a3), (.ref (rs (fs i)))]))
    refine Go.iaload C X106 A3 (nn32 (by omega)) (dg_get hc hti) d3_107 ?_
    show Go p e below s n0 _ _ _ (T106.setTop (mkF m 108 #[rv q, rv a3, rv a4, iv i.toInt32, s4, s5] [(.int (cnt fs i (fs i)).toInt32), (.int (fs i).toInt32), (.ref a3), (.ref (rs (fs i)))]))
    refine Go.dupX2 C X106 rfl rfl rfl d3_108 ?_
    show Go p e below s n0 _ _ _ (T106.setTop (mkF m 109 #[rv q, rv a3, rv a4, iv i.toInt32, s4, s5] [(.int (cnt fs i (fs i)).toInt32), (.int (fs i).toInt32), (.ref a3), (.int (cnt fs i (fs i)).toInt32), (.ref (rs (fs i)))]))
    refine Go.st (fun _ => XS.iconst X106.here C.hx rfl (hb C.hby d3_109)) ?_
    show Go p e below s n0 _ _ _ (T106.setTop (mkF m 110 #[rv q, rv a3, rv a4, iv i.toInt32, s4, s5] [(.int 1), (.int (cnt fs i (fs i)).toInt32), (.int (fs i).toInt32), (.ref a3), (.int (cnt fs i (fs i)).toInt32), (.ref (rs (fs i)))]))
    refine Go.st (fun _ => XS.iadd X106.here C.hx rfl (hb C.hby d3_110) rfl) ?_
    show Go p e below s n0 _ _ _ (T106.setTop (mkF m 111 #[rv q, rv a3, rv a4, iv i.toInt32, s4, s5] [(.int ((cnt fs i (fs i)).toInt32 + (1 : Int32))), (.int (fs i).toInt32), (.ref a3), (.int (cnt fs i (fs i)).toInt32), (.ref (rs (fs i)))]))
    refine Go.iastore C X106 A3 (nn32 (by omega)) (by rw [dg_len, cl32 (by omega)]; omega) g3 d3_111 (fun T107 h107 X107 W107 A107 => ?_)
    have RF_108 : ∀ x, x < cc → AR Z h107 (rs x) .int ((rowP fs tsI n i x).map Value.int) := (fun x hx => (RF x hx).other W107 (r3 x hx))
    have K107 : Keep h0 h107 [] := KK.wr W107 (Or.inr old_a3)
    show Go p e below s n0 _ _ _ (T107.setTop (mkF m 112 #[rv q, rv a3, rv a4, iv i.toInt32, s4, s5] [(.int (cnt fs i (fs i)).toInt32), (.ref (rs (fs i)))]))
    refine Go.st (fun _ => XS.iloadN X107.here C.hx rfl (hb C.hby d3_112) rfl) ?_
    show Go p e below s n0 _ _ _ (T107.setTop (mkF m 113 #[rv q, rv a3, rv a4, iv i.toInt32, s4, s5] [(.int i.toInt32), (.int (cnt fs i (fs i)).toInt32), (.ref (rs (fs i)))]))
    refine Go.iastore C X107 (RF_108 (fs i) hti) (nn32 (by omega)) (by rw [List.length_map, row_len, cl32 (by omega)]; exact cnt_lt fs (by omega)) (gr _ hti) d3_113 (fun T109 h109 X109 W109 A109 => ?_)
    have AN109 : AR Z h109 (rs (fs i)) .int ((rowP fs tsI n (i + 1) (fs i)).map Value.int) := by have u : AR Z h109 (rs (fs i)) .int (((rowP fs tsI n i (fs i)).map Value.int).set (cnt fs i (fs i)).toInt32.toNatClampNeg (.int (tsI i))) := A109; rw [row_set hn (by omega)] at u; exact u
    have RN109 : ∀ x, x < cc → AR Z h109 (rs x) .int ((rowP fs tsI n (i + 1) x).map Value.int) := fun x hx => by
      by_cases q : x = fs i
      · rw [q]; exact AN109
      · rw [row_other q]; exact (RF_108 x hx).other W109 (dr x (fs i) hx hti q)
    have A1_110 : AR Z h109 a1 .int (frV n fs) := ((A1.other W107 n13).other W109 (Ne.symm (r1 _ hti)))
    have FL_111 : Fld Z h109 q "com/example/layrd/layrd/layout/LayeredGraph" "layers" "I" (.int cc.toInt32) := (Fld.other W109 (Fld.other W107 FL (Or.inl nq3)) (Or.inl (Ne.symm (rq _ hti))))
    have FI_112 : Fld Z h109 q "com/example/layrd/layrd/layout/LayeredGraph" "itemLayer" "[I" (.ref a1) := (Fld.other W109 (Fld.other W107 FI (Or.inl nq3)) (Or.inl (Ne.symm (rq _ hti))))
    have O4_113 : AO Z h109 a4 (ouV cc cc rs) := ((O4.other W107 (Ne.symm n34)).other W109 (Ne.symm (r4 _ hti)))
    have K109 : Keep h0 h109 [] := K107.wr W109 (Or.inr old_rs)
    show Go p e below s n0 _ _ _ (T109.setTop (mkF m 114 #[rv q, rv a3, rv a4, iv i.toInt32, s4, s5] []))
    refine Go.st (fun _ => XS.iinc X109.here C.hx rfl (hb C.hby d3_114) rfl (l' := #[rv q, rv a3, rv a4, iv (i.toInt32 + (1 : Int32)), s4, s5]) rfl) ?_
    show Go p e below s n0 _ _ _ (T109.setTop (mkF m 117 #[rv q, rv a3, rv a4, iv (i.toInt32 + (1 : Int32)), s4, s5] []))
    refine Go.st (fun _ => XS.goto X109.here C.hx rfl (pc0 := 117) (pc' := 82) rfl (hb C.hby d3_117) (by decide) (by decide)) ?_
    show Go p e below s n0 _ _ _ (T109.setTop (mkF m 82 #[rv q, rv a3, rv a4, iv (i.toInt32 + (1 : Int32)), s4, s5] []))
    rw [inc32 i]
    refine ih (i + 1) T109 h109 (by omega) X109 A1_110 FL_111 FI_112 ?_ O4_113 RN109 K109
    rw [← dg_inc hc hti]
    exact (A107.other W109 (Ne.symm (r3 _ hti)))
set_option maxRecDepth 65536 in
set_option maxHeartbeats 40000000 in
theorem loop2 {p : Program} {l : Launch} {e : Env} {R : Room} {s : State} {m : MethodId} {args : Array Value} {below : List Frame} {meth : Method} {c : Code} {Z : State} {a0 : Array Value} {n0 kc kn cells slots : Nat} {Q : Option Value → Heap → Prop} (C : Ctx p s m meth c Z a0 tables_1 "com/example/layrd/layrd/layout/LayeredGraph" "itemOrder" prog_77_method_11_code 6 (some (.array (.array .int)))) (cc n : Nat) (hc : cc ≤ 4) (hn : n ≤ 4) (fs : Nat → Nat) (hfs : ∀ j, j < n → fs j < cc) (q a1 a3 : Addr) (h0 : Heap) (g3 : n0 ≤ a3) (old_a3 : h0.size ≤ a3) (n13 : a1 ≠ a3) (nq3 : q ≠ a3) (a4 : Addr) (g4 : n0 ≤ a4) (old_a4 : h0.size ≤ a4) (n14 : a1 ≠ a4) (nq4 : q ≠ a4) (n34 : a3 ≠ a4) (s4 s5 : Slot) (hRc : cells + cc ≤ R.cells) (hRs : slots + 4 * cc ≤ R.slots) (hkc : cells + cc ≤ kc) (hkn : slots + 4 * cc ≤ kn) (hQ : ∀ v h, (∃ b rs, v = some (.ref b) ∧ AO Z h b (ouV cc cc rs) ∧ (∀ x, x < cc → AR Z h (rs x) .int ((rowP fs tsI n n x).map Value.int)) ∧ Keep h0 h []) → Q v h) : ∀ (k i : Nat) (T : State) (h : Heap) (rs : Nat → Addr), i + k = cc → St p l e R s m args below meth c n0 T h (cells + i) (slots + 4 * i) → AR Z h a1 .int (frV n fs) → Fld Z h q "com/example/layrd/layrd/layout/LayeredGraph" "layers" "I" (.int cc.toInt32) → Fld Z h q "com/example/layrd/layrd/layout/LayeredGraph" "itemLayer" "[I" (.ref a1) → AR Z h a3 .int (dgV cc (d2 fs n i)) → AO Z h a4 (ouV cc i rs) → (∀ x, x < i → AR Z h (rs x) .int ((rowP fs tsI n 0 x).map Value.int)) → (∀ x, x < i → n0 ≤ rs x) → (∀ x, x < i → h0.size ≤ rs x) → (∀ x, x < i → rs x ≠ a1) → (∀ x, x < i → rs x ≠ q) → (∀ x, x < i → rs x ≠ a3) → (∀ x, x < i → rs x ≠ a4) → (∀ x y, x < i → y < i → x ≠ y → rs x ≠ rs y) → Keep h0 h [] →
    Go p e below s n0 kc kn Q (T.setTop (mkF m 54 #[rv q, rv a3, rv a4, iv i.toInt32, s4, s5] [])) := by
  intro k
  induction k with
  | zero =>
    intro i T h rs hi X A1 FL FI A3 O4 RF gr oldr r1 rq r3 r4 dr KK
    obtain rfl : i = cc := by omega
    show Go p e below s n0 _ _ _ (T.setTop (mkF m 54 #[rv q, rv a3, rv a4, iv i.toInt32, s4, s5] []))
    refine Go.st (fun _ => XS.iloadN X.here C.hx rfl (hb C.hby d3_54) rfl) ?_
    show Go p e below s n0 _ _ _ (T.setTop (mkF m 55 #[rv q, rv a3, rv a4, iv i.toInt32, s4, s5] [(.int i.toInt32)]))
    refine Go.st (fun _ => XS.aloadN X.here C.hx rfl (hb C.hby d3_55) rfl rfl) ?_
    show Go p e below s n0 _ _ _ (T.setTop (mkF m 56 #[rv q, rv a3, rv a4, iv i.toInt32, s4, s5] [(.ref q), (.int i.toInt32)]))
    refine Go.getF C X (wd 12 rfl) FL d3_56 (fun T114 X114 => ?_)
    show Go p e below s n0 _ _ _ (T114.setTop (mkF m 59 #[rv q, rv a3, rv a4, iv i.toInt32, s4, s5] [(.int i.toInt32), (.int i.toInt32)]))
    refine Go.icmp_ge C X114 (pc' := 80) d3_59 (by decide) (by decide) (fun _ => ?_) (fun hc => by first | exact absurd hc (irr _) | exact absurd (irr _) hc)
    show Go p e below s n0 _ _ _ (T114.setTop (mkF m 80 #[rv q, rv a3, rv a4, iv i.toInt32, s4, s5] []))
    refine Go.st (fun _ => XS.iconst X114.here C.hx rfl (hb C.hby d3_80)) ?_
    show Go p e below s n0 _ _ _ (T114.setTop (mkF m 81 #[rv q, rv a3, rv a4, iv i.toInt32, s4, s5] [(.int 0)]))
    refine Go.st (fun _ => XS.istoreN X114.here C.hx rfl (hb C.hby d3_81) rfl (l' := #[rv q, rv a3, rv a4, iv 0, s4, s5]) rfl) ?_
    show Go p e below s n0 _ _ _ (T114.setTop (mkF m 82 #[rv q, rv a3, rv a4, iv 0, s4, s5] []))
    exact loop3 C i n hc hn fs hfs q a1 a3 h0 g3 old_a3 n13 nq3 a4 g4 old_a4 n14 nq4 n34 s4 s5 rs gr oldr r1 rq r3 r4 dr hkc hkn hQ n 0 T114 h (by omega) X114 A1 FL FI (by rw [← d2_end i fs n]; exact A3) O4 RF KK
  | succ k ih =>
    intro i T h rs hi X A1 FL FI A3 O4 RF gr oldr r1 rq r3 r4 dr KK
    have hlt : i.toInt32 < cc.toInt32 := (ltI (by omega) (by omega)).mpr (by omega)
    have hcl := cnt_le fs n i
    show Go p e below s n0 _ _ _ (T.setTop (mkF m 54 #[rv q, rv a3, rv a4, iv i.toInt32, s4, s5] []))
    refine Go.st (fun _ => XS.iloadN X.here C.hx rfl (hb C.hby d3_54) rfl) ?_
    show Go p e below s n0 _ _ _ (T.setTop (mkF m 55 #[rv q, rv a3, rv a4, iv i.toInt32, s4, s5] [(.int i.toInt32)]))
    refine Go.st (fun _ => XS.aloadN X.here C.hx rfl (hb C.hby d3_55) rfl rfl) ?_
    show Go p e below s n0 _ _ _ (T.setTop (mkF m 56 #[rv q, rv a3, rv a4, iv i.toInt32, s4, s5] [(.ref q), (.int i.toInt32)]))
    refine Go.getF C X (wd 12 rfl) FL d3_56 (fun T116 X116 => ?_)
    show Go p e below s n0 _ _ _ (T116.setTop (mkF m 59 #[rv q, rv a3, rv a4, iv i.toInt32, s4, s5] [(.int cc.toInt32), (.int i.toInt32)]))
    refine Go.icmp_ge C X116 (pc' := 80) d3_59 (by decide) (by decide) (fun hc => by first | exact absurd hc hlt | exact absurd hlt hc) (fun _ => ?_)
    show Go p e below s n0 _ _ _ (T116.setTop (mkF m 62 #[rv q, rv a3, rv a4, iv i.toInt32, s4, s5] []))
    refine Go.st (fun _ => XS.aloadN X116.here C.hx rfl (hb C.hby d3_62) rfl rfl) ?_
    show Go p e below s n0 _ _ _ (T116.setTop (mkF m 63 #[rv q, rv a3, rv a4, iv i.toInt32, s4, s5] [(.ref a4)]))
    refine Go.st (fun _ => XS.iloadN X116.here C.hx rfl (hb C.hby d3_63) rfl) ?_
    show Go p e below s n0 _ _ _ (T116.setTop (mkF m 64 #[rv q, rv a3, rv a4, iv i.toInt32, s4, s5] [(.int i.toInt32), (.ref a4)]))
    refine Go.st (fun _ => XS.aloadN X116.here C.hx rfl (hb C.hby d3_64) rfl rfl) ?_
    show Go p e below s n0 _ _ _ (T116.setTop (mkF m 65 #[rv q, rv a3, rv a4, iv i.toInt32, s4, s5] [(.ref a3), (.int i.toInt32), (.ref a4)]))
    refine Go.st (fun _ => XS.iloadN X116.here C.hx rfl (hb C.hby d3_65) rfl) ?_
    show Go p e below s n0 _ _ _ (T116.setTop (mkF m 66 #[rv q, rv a3, rv a4, iv i.toInt32, s4, s5] [(.int i.toInt32), (.ref a3), (.int i.toInt32), (.ref a4)]))
    refine Go.iaload C X116 A3 (nn32 (by omega)) (dg_get hc (by omega)) d3_66 ?_
    show Go p e below s n0 _ _ _ (T116.setTop (mkF m 67 #[rv q, rv a3, rv a4, iv i.toInt32, s4, s5] [(.int (d2 fs n i i).toInt32), (.int i.toInt32), (.ref a4)]))
    refine Go.newPE C X116 (aty := .int) (cap := 4) (ad := "[I") (wd 0 rfl) (by decide) d3_67 (nn32 (by rw [d2_at]; omega)) (by rw [d2_at, cl32 (by omega)]; omega) (by decide) (by omega) (by omega) (fun T118 h118 b118 g118 ge118 X118 E118 A118 EX118 => ?_)
    have ne_a1_b118 : a1 ≠ b118 := Nat.ne_of_lt (Nat.lt_of_lt_of_le (A1).lt (Nat.le_of_eq g118))
    have ne_q_b118 : q ≠ b118 := Nat.ne_of_lt (Nat.lt_of_lt_of_le (FL).lt (Nat.le_of_eq g118))
    have ne_a3_b118 : a3 ≠ b118 := Nat.ne_of_lt (Nat.lt_of_lt_of_le (A3).lt (Nat.le_of_eq g118))
    have ne_a4_b118 : a4 ≠ b118 := Nat.ne_of_lt (Nat.lt_of_lt_of_le (O4).lt (Nat.le_of_eq g118))
    have K118 : Keep h0 h118 [] := KK.ext E118
    have old_b118 : h0.size ≤ b118 := Nat.le_trans KK.1 (Nat.le_of_eq g118)
    have A_b118 : AR Z h118 b118 .int ((rowP fs tsI n 0 i).map Value.int) := (by have u := A118; rw [d2_at, cl32 (by omega)] at u; rw [← row0]; exact u)
    have nrb : ∀ x, x < i → rs x ≠ b118 := fun x hx => Nat.ne_of_lt (Nat.lt_of_lt_of_le (RF x hx).lt (Nat.le_of_eq g118))
    show Go p e below s n0 _ _ _ (T118.setTop (mkF m 69 #[rv q, rv a3, rv a4, iv i.toInt32, s4, s5] [(.ref b118), (.int i.toInt32), (.ref a4)]))
    refine Go.aastore C X118 (O4.ext E118) EX118 (nn32 (by omega)) (by rw [ou_len, cl32 (by omega)]; omega) g4 d3_69 (fun T119 h119 X119 W119 O119 => ?_)
    have FL_120 : Fld Z h119 q "com/example/layrd/layrd/layout/LayeredGraph" "layers" "I" (.int cc.toInt32) := (Fld.other W119 (Fld.ext E118 FL) (Or.inl nq4))
    have FI_121 : Fld Z h119 q "com/example/layrd/layrd/layout/LayeredGraph" "itemLayer" "[I" (.ref a1) := (Fld.other W119 (Fld.ext E118 FI) (Or.inl nq4))
    have RF_122 : ∀ x, x < i → AR Z h119 (rs x) .int ((rowP fs tsI n 0 x).map Value.int) := (fun x hx => ((fun x hx => (RF x hx).ext E118) x hx).other W119 (r4 x hx))
    have K119 : Keep h0 h119 [] := K118.wr W119 (Or.inr old_a4)
    show Go p e below s n0 _ _ _ (T119.setTop (mkF m 70 #[rv q, rv a3, rv a4, iv i.toInt32, s4, s5] []))
    refine Go.st (fun _ => XS.aloadN X119.here C.hx rfl (hb C.hby d3_70) rfl rfl) ?_
    show Go p e below s n0 _ _ _ (T119.setTop (mkF m 71 #[rv q, rv a3, rv a4, iv i.toInt32, s4, s5] [(.ref a3)]))
    refine Go.st (fun _ => XS.iloadN X119.here C.hx rfl (hb C.hby d3_71) rfl) ?_
    show Go p e below s n0 _ _ _ (T119.setTop (mkF m 72 #[rv q, rv a3, rv a4, iv i.toInt32, s4, s5] [(.int i.toInt32), (.ref a3)]))
    refine Go.st (fun _ => XS.iconst X119.here C.hx rfl (hb C.hby d3_72)) ?_
    show Go p e below s n0 _ _ _ (T119.setTop (mkF m 73 #[rv q, rv a3, rv a4, iv i.toInt32, s4, s5] [(.int 0), (.int i.toInt32), (.ref a3)]))
    refine Go.iastore C X119 ((A3.ext E118).other W119 n34) (nn32 (by omega)) (by rw [dg_len, cl32 (by omega)]; omega) g3 d3_73 (fun T123 h123 X123 W123 A123 => ?_)
    have A1_124 : AR Z h123 a1 .int (frV n fs) := (((A1.ext E118).other W119 n14).other W123 n13)
    have RF_125 : ∀ x, x < i → AR Z h123 (rs x) .int ((rowP fs tsI n 0 x).map Value.int) := (fun x hx => (RF_122 x hx).other W123 (r3 x hx))
    have A_b118_126 : AR Z h123 b118 .int ((rowP fs tsI n 0 i).map Value.int) := ((A_b118.other W119 (Ne.symm ne_a4_b118)).other W123 (Ne.symm ne_a3_b118))
    have K123 : Keep h0 h123 [] := K119.wr W123 (Or.inr old_a3)
    show Go p e below s n0 _ _ _ (T123.setTop (mkF m 74 #[rv q, rv a3, rv a4, iv i.toInt32, s4, s5] []))
    refine Go.st (fun _ => XS.iinc X123.here C.hx rfl (hb C.hby d3_74) rfl (l' := #[rv q, rv a3, rv a4, iv (i.toInt32 + (1 : Int32)), s4, s5]) rfl) ?_
    show Go p e below s n0 _ _ _ (T123.setTop (mkF m 77 #[rv q, rv a3, rv a4, iv (i.toInt32 + (1 : Int32)), s4, s5] []))
    refine Go.st (fun _ => XS.goto X123.here C.hx rfl (pc0 := 77) (pc' := 54) rfl (hb C.hby d3_77) (by decide) (by decide)) ?_
    show Go p e below s n0 _ _ _ (T123.setTop (mkF m 54 #[rv q, rv a3, rv a4, iv (i.toInt32 + (1 : Int32)), s4, s5] []))
    rw [inc32 i]
    refine ih (i + 1) T123 h123 (upd rs i b118) (by omega) (X123.mono (by omega) (by omega)) A1_124 (Fld.other W123 FL_120 (Or.inl nq3)) (Fld.other W123 FI_121 (Or.inl nq3)) ?_ ?_ ?_ (upd_all (P := fun z => n0 ≤ z) gr ge118) (upd_all (P := fun z => h0.size ≤ z) oldr old_b118) (upd_all (P := fun z => z ≠ a1) r1 (Ne.symm ne_a1_b118)) (upd_all (P := fun z => z ≠ q) rq (Ne.symm ne_q_b118)) (upd_all (P := fun z => z ≠ a3) r3 (Ne.symm ne_a3_b118)) (upd_all (P := fun z => z ≠ a4) r4 (Ne.symm ne_a4_b118)) (upd_dr dr nrb) K123
    · rw [← dg_clear hc (by omega)]; exact A123
    · rw [← ou_set hc (by omega)]; exact (O119.other W123 (Ne.symm n34))
    · exact upd_rows RF_125 A_b118_126
set_option maxRecDepth 65536 in
set_option maxHeartbeats 40000000 in
theorem loop1 {p : Program} {l : Launch} {e : Env} {R : Room} {s : State} {m : MethodId} {args : Array Value} {below : List Frame} {meth : Method} {c : Code} {Z : State} {a0 : Array Value} {n0 kc kn cells slots : Nat} {Q : Option Value → Heap → Prop} (C : Ctx p s m meth c Z a0 tables_1 "com/example/layrd/layrd/layout/LayeredGraph" "itemOrder" prog_77_method_11_code 6 (some (.array (.array .int)))) (cc n : Nat) (hc : cc ≤ 4) (hn : n ≤ 4) (fs : Nat → Nat) (hfs : ∀ j, j < n → fs j < cc) (q a1 a3 : Addr) (h0 : Heap) (g3 : n0 ≤ a3) (old_a3 : h0.size ≤ a3) (n13 : a1 ≠ a3) (nq3 : q ≠ a3) (hRc : cells + 1 + cc ≤ R.cells) (hRs : slots + 4 + 4 * cc ≤ R.slots) (hkc : cells + 1 + cc ≤ kc) (hkn : slots + 4 + 4 * cc ≤ kn) (hQ : ∀ v h, (∃ b rs, v = some (.ref b) ∧ AO Z h b (ouV cc cc rs) ∧ (∀ x, x < cc → AR Z h (rs x) .int ((rowP fs tsI n n x).map Value.int)) ∧ Keep h0 h []) → Q v h) : ∀ (k i : Nat) (T : State) (h : Heap) (s5 : Slot), (s5 = .unset ∨ ∃ z, s5 = .val (.int z)) → i + k = n → St p l e R s m args below meth c n0 T h cells slots → AR Z h a1 .int (frV n fs) → Fld Z h q "com/example/layrd/layrd/layout/LayeredGraph" "layers" "I" (.int cc.toInt32) → Fld Z h q "com/example/layrd/layrd/layout/LayeredGraph" "itemLayer" "[I" (.ref a1) → AR Z h a3 .int (dgV cc (cnt fs i)) → Keep h0 h [] →
    Go p e below s n0 kc kn Q (T.setTop (mkF m 18 #[rv q, rv a3, rv a1, iv n.toInt32, iv i.toInt32, s5] [])) := by
  intro k
  induction k with
  | zero =>
    intro i T h s5 h5 hi X A1 FL FI A3 KK
    obtain rfl : i = n := by omega
    show Go p e below s n0 _ _ _ (T.setTop (mkF m 18 #[rv q, rv a3, rv a1, iv i.toInt32, iv i.toInt32, s5] []))
    refine Go.st (fun _ => XS.iload X.here C.hx rfl (hb C.hby d3_18) rfl) ?_
    show Go p e below s n0 _ _ _ (T.setTop (mkF m 20 #[rv q, rv a3, rv a1, iv i.toInt32, iv i.toInt32, s5] [(.int i.toInt32)]))
    refine Go.st (fun _ => XS.iloadN X.here C.hx rfl (hb C.hby d3_20) rfl) ?_
    show Go p e below s n0 _ _ _ (T.setTop (mkF m 21 #[rv q, rv a3, rv a1, iv i.toInt32, iv i.toInt32, s5] [(.int i.toInt32), (.int i.toInt32)]))
    refine Go.icmp_ge C X (pc' := 44) d3_21 (by decide) (by decide) (fun _ => ?_) (fun hc => by first | exact absurd hc (irr _) | exact absurd (irr _) hc)
    show Go p e below s n0 _ _ _ (T.setTop (mkF m 44 #[rv q, rv a3, rv a1, iv i.toInt32, iv i.toInt32, s5] []))
    refine Go.st (fun _ => XS.aloadN X.here C.hx rfl (hb C.hby d3_44) rfl rfl) ?_
    show Go p e below s n0 _ _ _ (T.setTop (mkF m 45 #[rv q, rv a3, rv a1, iv i.toInt32, iv i.toInt32, s5] [(.ref q)]))
    refine Go.getF C X (wd 12 rfl) FL d3_45 (fun T128 X128 => ?_)
    show Go p e below s n0 _ _ _ (T128.setTop (mkF m 48 #[rv q, rv a3, rv a1, iv i.toInt32, iv i.toInt32, s5] [(.int cc.toInt32)]))
    refine Go.newRA C X128 (cap := 4) (wd 29 rfl) (wd 30 rfl) d3_48 (nn32 (by omega)) (by rw [cl32 (by omega)]; omega) (by decide) (by omega) (by omega) (fun T129 h129 b129 g129 ge129 X129 E129 O129 => ?_)
    have ne_a1_b129 : a1 ≠ b129 := Nat.ne_of_lt (Nat.lt_of_lt_of_le (A1).lt (Nat.le_of_eq g129))
    have ne_q_b129 : q ≠ b129 := Nat.ne_of_lt (Nat.lt_of_lt_of_le (FL).lt (Nat.le_of_eq g129))
    have ne_a3_b129 : a3 ≠ b129 := Nat.ne_of_lt (Nat.lt_of_lt_of_le (A3).lt (Nat.le_of_eq g129))
    have K129 : Keep h0 h129 [] := KK.ext E129
    have old_b129 : h0.size ≤ b129 := Nat.le_trans KK.1 (Nat.le_of_eq g129)
    have O_b129 : AO Z h129 b129 (List.replicate cc .null) := (by have u := O129; rw [cl32 (by omega)] at u; exact u)
    show Go p e below s n0 _ _ _ (T129.setTop (mkF m 51 #[rv q, rv a3, rv a1, iv i.toInt32, iv i.toInt32, s5] [(.ref b129)]))
    refine Go.st (fun _ => XS.astoreN X129.here C.hx rfl (hb C.hby d3_51) rfl rfl (l' := #[rv q, rv a3, rv b129, iv i.toInt32, iv i.toInt32, s5]) rfl) ?_
    show Go p e below s n0 _ _ _ (T129.setTop (mkF m 52 #[rv q, rv a3, rv b129, iv i.toInt32, iv i.toInt32, s5] []))
    refine Go.st (fun _ => XS.iconst X129.here C.hx rfl (hb C.hby d3_52)) ?_
    show Go p e below s n0 _ _ _ (T129.setTop (mkF m 53 #[rv q, rv a3, rv b129, iv i.toInt32, iv i.toInt32, s5] [(.int 0)]))
    refine Go.st (fun _ => XS.istoreN X129.here C.hx rfl (hb C.hby d3_53) rfl (l' := #[rv q, rv a3, rv b129, iv 0, iv i.toInt32, s5]) rfl) ?_
    have rs0 : Nat → Addr := fun _ => 0
    show Go p e below s n0 _ _ _ (T129.setTop (mkF m 54 #[rv q, rv a3, rv b129, iv 0, iv i.toInt32, s5] []))
    exact loop2 C cc i hc hn fs hfs q a1 a3 h0 g3 old_a3 n13 nq3 b129 ge129 old_b129 ne_a1_b129 ne_q_b129 ne_a3_b129 _ _ hRc hRs hkc hkn hQ cc 0 T129 h129 rs0 (by omega) X129 (A1.ext E129) (Fld.ext E129 FL) (Fld.ext E129 FI) (A3.ext E129) (by rw [← ou_zero]; exact O_b129) (fun x hx => absurd hx (by omega)) (fun x hx => absurd hx (by omega)) (fun x hx => absurd hx (by omega)) (fun x hx => absurd hx (by omega)) (fun x hx => absurd hx (by omega)) (fun x hx => absurd hx (by omega)) (fun x hx => absurd hx (by omega)) (fun x y hx => absurd hx (by omega)) K129
  | succ k ih =>
    intro i T h s5 h5 hi X A1 FL FI A3 KK
    have hlt : i.toInt32 < n.toInt32 := (ltI (by omega) (by omega)).mpr (by omega)
    have hti : fs i < cc := hfs i (by omega)
    rcases h5 with rfl | ⟨z5, rfl⟩
    · show Go p e below s n0 _ _ _ (T.setTop (mkF m 18 #[rv q, rv a3, rv a1, iv n.toInt32, iv i.toInt32, .unset] []))
      refine Go.st (fun _ => XS.iload X.here C.hx rfl (hb C.hby d3_18) rfl) ?_
      show Go p e below s n0 _ _ _ (T.setTop (mkF m 20 #[rv q, rv a3, rv a1, iv n.toInt32, iv i.toInt32, .unset] [(.int i.toInt32)]))
      refine Go.st (fun _ => XS.iloadN X.here C.hx rfl (hb C.hby d3_20) rfl) ?_
      show Go p e below s n0 _ _ _ (T.setTop (mkF m 21 #[rv q, rv a3, rv a1, iv n.toInt32, iv i.toInt32, .unset] [(.int n.toInt32), (.int i.toInt32)]))
      refine Go.icmp_ge C X (pc' := 44) d3_21 (by decide) (by decide) (fun hc => by first | exact absurd hc hlt | exact absurd hlt hc) (fun _ => ?_)
      show Go p e below s n0 _ _ _ (T.setTop (mkF m 24 #[rv q, rv a3, rv a1, iv n.toInt32, iv i.toInt32, .unset] []))
      refine Go.st (fun _ => XS.aloadN X.here C.hx rfl (hb C.hby d3_24) rfl rfl) ?_
      show Go p e below s n0 _ _ _ (T.setTop (mkF m 25 #[rv q, rv a3, rv a1, iv n.toInt32, iv i.toInt32, .unset] [(.ref a1)]))
      refine Go.st (fun _ => XS.iload X.here C.hx rfl (hb C.hby d3_25) rfl) ?_
      show Go p e below s n0 _ _ _ (T.setTop (mkF m 27 #[rv q, rv a3, rv a1, iv n.toInt32, iv i.toInt32, .unset] [(.int i.toInt32), (.ref a1)]))
      refine Go.iaload C X A1 (nn32 (by omega)) (fr_get hn (by omega)) d3_27 ?_
      show Go p e below s n0 _ _ _ (T.setTop (mkF m 28 #[rv q, rv a3, rv a1, iv n.toInt32, iv i.toInt32, .unset] [(.int (fs i).toInt32)]))
      refine Go.st (fun _ => XS.istore X.here C.hx rfl (hb C.hby d3_28) rfl (l' := #[rv q, rv a3, rv a1, iv n.toInt32, iv i.toInt32, iv (fs i).toInt32]) rfl) ?_
      show Go p e below s n0 _ _ _ (T.setTop (mkF m 30 #[rv q, rv a3, rv a1, iv n.toInt32, iv i.toInt32, iv (fs i).toInt32] []))
      refine Go.st (fun _ => XS.aloadN X.here C.hx rfl (hb C.hby d3_30) rfl rfl) ?_
      show Go p e below s n0 _ _ _ (T.setTop (mkF m 31 #[rv q, rv a3, rv a1, iv n.toInt32, iv i.toInt32, iv (fs i).toInt32] [(.ref a3)]))
      refine Go.st (fun _ => XS.iload X.here C.hx rfl (hb C.hby d3_31) rfl) ?_
      show Go p e below s n0 _ _ _ (T.setTop (mkF m 33 #[rv q, rv a3, rv a1, iv n.toInt32, iv i.toInt32, iv (fs i).toInt32] [(.int (fs i).toInt32), (.ref a3)]))
      refine Go.st (fun _ => XT.dup2 X.here C.hx rfl (hb C.hby d3_33) rfl rfl rfl) ?_
      show Go p e below s n0 _ _ _ (T.setTop (mkF m 34 #[rv q, rv a3, rv a1, iv n.toInt32, iv i.toInt32, iv (fs i).toInt32] [(.int (fs i).toInt32), (.ref a3), (.int (fs i).toInt32), (.ref a3)]))
      refine Go.iaload C X A3 (nn32 (by omega)) (dg_get hc hti) d3_34 ?_
      show Go p e below s n0 _ _ _ (T.setTop (mkF m 35 #[rv q, rv a3, rv a1, iv n.toInt32, iv i.toInt32, iv (fs i).toInt32] [(.int (cnt fs i (fs i)).toInt32), (.int (fs i).toInt32), (.ref a3)]))
      refine Go.st (fun _ => XS.iconst X.here C.hx rfl (hb C.hby d3_35)) ?_
      show Go p e below s n0 _ _ _ (T.setTop (mkF m 36 #[rv q, rv a3, rv a1, iv n.toInt32, iv i.toInt32, iv (fs i).toInt32] [(.int 1), (.int (cnt fs i (fs i)).toInt32), (.int (fs i).toInt32), (.ref a3)]))
      refine Go.st (fun _ => XS.iadd X.here C.hx rfl (hb C.hby d3_36) rfl) ?_
      show Go p e below s n0 _ _ _ (T.setTop (mkF m 37 #[rv q, rv a3, rv a1, iv n.toInt32, iv i.toInt32, iv (fs i).toInt32] [(.int ((cnt fs i (fs i)).toInt32 + (1 : Int32))), (.int (fs i).toInt32), (.ref a3)]))
      refine Go.iastore C X A3 (nn32 (by omega)) (by rw [dg_len, cl32 (by omega)]; omega) g3 d3_37 (fun T131 h131 X131 W131 A131 => ?_)
      have K131 : Keep h0 h131 [] := KK.wr W131 (Or.inr old_a3)
      show Go p e below s n0 _ _ _ (T131.setTop (mkF m 38 #[rv q, rv a3, rv a1, iv n.toInt32, iv i.toInt32, iv (fs i).toInt32] []))
      refine Go.st (fun _ => XS.iinc X131.here C.hx rfl (hb C.hby d3_38) rfl (l' := #[rv q, rv a3, rv a1, iv n.toInt32, iv (i.toInt32 + (1 : Int32)), iv (fs i).toInt32]) rfl) ?_
      show Go p e below s n0 _ _ _ (T131.setTop (mkF m 41 #[rv q, rv a3, rv a1, iv n.toInt32, iv (i.toInt32 + (1 : Int32)), iv (fs i).toInt32] []))
      refine Go.st (fun _ => XS.goto X131.here C.hx rfl (pc0 := 41) (pc' := 18) rfl (hb C.hby d3_41) (by decide) (by decide)) ?_
      show Go p e below s n0 _ _ _ (T131.setTop (mkF m 18 #[rv q, rv a3, rv a1, iv n.toInt32, iv (i.toInt32 + (1 : Int32)), iv (fs i).toInt32] []))
      rw [inc32 i]
      refine ih (i + 1) T131 h131 _ (Or.inr ⟨_, rfl⟩) (by omega) X131 (A1.other W131 n13) (Fld.other W131 FL (Or.inl nq3)) (Fld.other W131 FI (Or.inl nq3)) ?_ K131
      rw [← dg_inc hc hti]
      exact A131
    · show Go p e below s n0 _ _ _ (T.setTop (mkF m 18 #[rv q, rv a3, rv a1, iv n.toInt32, iv i.toInt32, iv z5] []))
      refine Go.st (fun _ => XS.iload X.here C.hx rfl (hb C.hby d3_18) rfl) ?_
      show Go p e below s n0 _ _ _ (T.setTop (mkF m 20 #[rv q, rv a3, rv a1, iv n.toInt32, iv i.toInt32, iv z5] [(.int i.toInt32)]))
      refine Go.st (fun _ => XS.iloadN X.here C.hx rfl (hb C.hby d3_20) rfl) ?_
      show Go p e below s n0 _ _ _ (T.setTop (mkF m 21 #[rv q, rv a3, rv a1, iv n.toInt32, iv i.toInt32, iv z5] [(.int n.toInt32), (.int i.toInt32)]))
      refine Go.icmp_ge C X (pc' := 44) d3_21 (by decide) (by decide) (fun hc => by first | exact absurd hc hlt | exact absurd hlt hc) (fun _ => ?_)
      show Go p e below s n0 _ _ _ (T.setTop (mkF m 24 #[rv q, rv a3, rv a1, iv n.toInt32, iv i.toInt32, iv z5] []))
      refine Go.st (fun _ => XS.aloadN X.here C.hx rfl (hb C.hby d3_24) rfl rfl) ?_
      show Go p e below s n0 _ _ _ (T.setTop (mkF m 25 #[rv q, rv a3, rv a1, iv n.toInt32, iv i.toInt32, iv z5] [(.ref a1)]))
      refine Go.st (fun _ => XS.iload X.here C.hx rfl (hb C.hby d3_25) rfl) ?_
      show Go p e below s n0 _ _ _ (T.setTop (mkF m 27 #[rv q, rv a3, rv a1, iv n.toInt32, iv i.toInt32, iv z5] [(.int i.toInt32), (.ref a1)]))
      refine Go.iaload C X A1 (nn32 (by omega)) (fr_get hn (by omega)) d3_27 ?_
      show Go p e below s n0 _ _ _ (T.setTop (mkF m 28 #[rv q, rv a3, rv a1, iv n.toInt32, iv i.toInt32, iv z5] [(.int (fs i).toInt32)]))
      refine Go.st (fun _ => XS.istore X.here C.hx rfl (hb C.hby d3_28) rfl (l' := #[rv q, rv a3, rv a1, iv n.toInt32, iv i.toInt32, iv (fs i).toInt32]) rfl) ?_
      show Go p e below s n0 _ _ _ (T.setTop (mkF m 30 #[rv q, rv a3, rv a1, iv n.toInt32, iv i.toInt32, iv (fs i).toInt32] []))
      refine Go.st (fun _ => XS.aloadN X.here C.hx rfl (hb C.hby d3_30) rfl rfl) ?_
      show Go p e below s n0 _ _ _ (T.setTop (mkF m 31 #[rv q, rv a3, rv a1, iv n.toInt32, iv i.toInt32, iv (fs i).toInt32] [(.ref a3)]))
      refine Go.st (fun _ => XS.iload X.here C.hx rfl (hb C.hby d3_31) rfl) ?_
      show Go p e below s n0 _ _ _ (T.setTop (mkF m 33 #[rv q, rv a3, rv a1, iv n.toInt32, iv i.toInt32, iv (fs i).toInt32] [(.int (fs i).toInt32), (.ref a3)]))
      refine Go.st (fun _ => XT.dup2 X.here C.hx rfl (hb C.hby d3_33) rfl rfl rfl) ?_
      show Go p e below s n0 _ _ _ (T.setTop (mkF m 34 #[rv q, rv a3, rv a1, iv n.toInt32, iv i.toInt32, iv (fs i).toInt32] [(.int (fs i).toInt32), (.ref a3), (.int (fs i).toInt32), (.ref a3)]))
      refine Go.iaload C X A3 (nn32 (by omega)) (dg_get hc hti) d3_34 ?_
      show Go p e below s n0 _ _ _ (T.setTop (mkF m 35 #[rv q, rv a3, rv a1, iv n.toInt32, iv i.toInt32, iv (fs i).toInt32] [(.int (cnt fs i (fs i)).toInt32), (.int (fs i).toInt32), (.ref a3)]))
      refine Go.st (fun _ => XS.iconst X.here C.hx rfl (hb C.hby d3_35)) ?_
      show Go p e below s n0 _ _ _ (T.setTop (mkF m 36 #[rv q, rv a3, rv a1, iv n.toInt32, iv i.toInt32, iv (fs i).toInt32] [(.int 1), (.int (cnt fs i (fs i)).toInt32), (.int (fs i).toInt32), (.ref a3)]))
      refine Go.st (fun _ => XS.iadd X.here C.hx rfl (hb C.hby d3_36) rfl) ?_
      show Go p e below s n0 _ _ _ (T.setTop (mkF m 37 #[rv q, rv a3, rv a1, iv n.toInt32, iv i.toInt32, iv (fs i).toInt32] [(.int ((cnt fs i (fs i)).toInt32 + (1 : Int32))), (.int (fs i).toInt32), (.ref a3)]))
      refine Go.iastore C X A3 (nn32 (by omega)) (by rw [dg_len, cl32 (by omega)]; omega) g3 d3_37 (fun T133 h133 X133 W133 A133 => ?_)
      have K133 : Keep h0 h133 [] := KK.wr W133 (Or.inr old_a3)
      show Go p e below s n0 _ _ _ (T133.setTop (mkF m 38 #[rv q, rv a3, rv a1, iv n.toInt32, iv i.toInt32, iv (fs i).toInt32] []))
      refine Go.st (fun _ => XS.iinc X133.here C.hx rfl (hb C.hby d3_38) rfl (l' := #[rv q, rv a3, rv a1, iv n.toInt32, iv (i.toInt32 + (1 : Int32)), iv (fs i).toInt32]) rfl) ?_
      show Go p e below s n0 _ _ _ (T133.setTop (mkF m 41 #[rv q, rv a3, rv a1, iv n.toInt32, iv (i.toInt32 + (1 : Int32)), iv (fs i).toInt32] []))
      refine Go.st (fun _ => XS.goto X133.here C.hx rfl (pc0 := 41) (pc' := 18) rfl (hb C.hby d3_41) (by decide) (by decide)) ?_
      show Go p e below s n0 _ _ _ (T133.setTop (mkF m 18 #[rv q, rv a3, rv a1, iv n.toInt32, iv (i.toInt32 + (1 : Int32)), iv (fs i).toInt32] []))
      rw [inc32 i]
      refine ih (i + 1) T133 h133 _ (Or.inr ⟨_, rfl⟩) (by omega) X133 (A1.other W133 n13) (Fld.other W133 FL (Or.inl nq3)) (Fld.other W133 FI (Or.inl nq3)) ?_ K133
      rw [← dg_inc hc hti]
      exact A133
set_option maxRecDepth 65536 in
set_option maxHeartbeats 40000000 in
theorem con_item (l : Launch) (Z : State) (a0 : Array Value) (hw : ∀ d ∈ tables_1, d.before a0 Z = true) (n0 : Nat) (h0 : Heap) (Z0 : n0 ≤ h0.size) (cc n : Nat) (fs : Nat → Nat) (q a1 : Addr) (hc : cc ≤ 4) (hn : n ≤ 4) (hfs : ∀ j, j < n → fs j < cc) (A1 : AR Z h0 a1 .int (frV n fs)) (FL : Fld Z h0 q "com/example/layrd/layrd/layout/LayeredGraph" "layers" "I" (.int cc.toInt32)) (FI : Fld Z h0 q "com/example/layrd/layrd/layout/LayeredGraph" "itemLayer" "[I" (.ref a1)) :
    Con l Z (⟨"com/example/layrd/layrd/layout/LayeredGraph", "itemOrder", "()[[I"⟩ : MethodName) prog_77_method_11_code 6 (some (.array (.array .int))) [] ({ frames := 0, cells := 6, slots := 24, locals := 0 } : Room) n0 #[(.ref q)] h0 (fun v h => ∃ b rs, v = some (.ref b) ∧ AO Z h b (ouV cc cc rs) ∧ (∀ x, x < cc → AR Z h (rs x) .int ((rowP fs tsI n n x).map Value.int)) ∧ Keep h0 h []) := by
  refine Con.mk pf_3 hw Z0 ?_
  intro p e s m below meth c T0 C X0
  have ef : entryFrame m #[(.ref q)] 6 = mkF m 0 #[rv q, .unset, .unset, .unset, .unset, .unset] [] := by first | (simp [entryFrame, mkF, argsToLocals, Value.category]; done) | rfl
  rw [ef]
  show Go p e below s n0 _ _ _ (T0.setTop (mkF m 0 #[rv q, .unset, .unset, .unset, .unset, .unset] []))
  refine Go.st (fun _ => XS.aloadN X0.here C.hx rfl (hb C.hby d3_0) rfl rfl) ?_
  show Go p e below s n0 _ _ _ (T0.setTop (mkF m 1 #[rv q, .unset, .unset, .unset, .unset, .unset] [(.ref q)]))
  refine Go.getF C X0 (wd 12 rfl) FL d3_1 (fun T134 X134 => ?_)
  show Go p e below s n0 _ _ _ (T134.setTop (mkF m 4 #[rv q, .unset, .unset, .unset, .unset, .unset] [(.int cc.toInt32)]))
  refine Go.newP C X134 (aty := .int) (cap := 4) (wd 0 rfl) d3_4 (nn32 (by omega)) (by rw [cl32 (by omega)]; omega) (by decide) (by decide) (by decide) (fun T135 h135 b135 g135 ge135 X135 E135 A135 => ?_)
  have ne_a1_b135 : a1 ≠ b135 := Nat.ne_of_lt (Nat.lt_of_lt_of_le (A1).lt (Nat.le_of_eq g135))
  have ne_q_b135 : q ≠ b135 := Nat.ne_of_lt (Nat.lt_of_lt_of_le (FL).lt (Nat.le_of_eq g135))
  have K135 : Keep h0 h135 [] := (Keep.refl h0 []).ext E135
  have old_b135 : h0.size ≤ b135 := Nat.le_trans (Keep.refl h0 []).1 (Nat.le_of_eq g135)
  show Go p e below s n0 _ _ _ (T135.setTop (mkF m 6 #[rv q, .unset, .unset, .unset, .unset, .unset] [(.ref b135)]))
  refine Go.st (fun _ => XS.astoreN X135.here C.hx rfl (hb C.hby d3_6) rfl rfl (l' := #[rv q, rv b135, .unset, .unset, .unset, .unset]) rfl) ?_
  show Go p e below s n0 _ _ _ (T135.setTop (mkF m 7 #[rv q, rv b135, .unset, .unset, .unset, .unset] []))
  refine Go.st (fun _ => XS.aloadN X135.here C.hx rfl (hb C.hby d3_7) rfl rfl) ?_
  show Go p e below s n0 _ _ _ (T135.setTop (mkF m 8 #[rv q, rv b135, .unset, .unset, .unset, .unset] [(.ref q)]))
  refine Go.getF C X135 (wd 14 rfl) (Fld.ext E135 FI) d3_8 (fun T136 X136 => ?_)
  show Go p e below s n0 _ _ _ (T136.setTop (mkF m 11 #[rv q, rv b135, .unset, .unset, .unset, .unset] [(.ref a1)]))
  refine Go.st (fun _ => XS.astoreN X136.here C.hx rfl (hb C.hby d3_11) rfl rfl (l' := #[rv q, rv b135, rv a1, .unset, .unset, .unset]) rfl) ?_
  show Go p e below s n0 _ _ _ (T136.setTop (mkF m 12 #[rv q, rv b135, rv a1, .unset, .unset, .unset] []))
  refine Go.st (fun _ => XS.aloadN X136.here C.hx rfl (hb C.hby d3_12) rfl rfl) ?_
  show Go p e below s n0 _ _ _ (T136.setTop (mkF m 13 #[rv q, rv b135, rv a1, .unset, .unset, .unset] [(.ref a1)]))
  refine Go.alen C X136 (A1.ext E135) (z := n.toInt32) (by rw [fr_len]) d3_13 ?_
  show Go p e below s n0 _ _ _ (T136.setTop (mkF m 14 #[rv q, rv b135, rv a1, .unset, .unset, .unset] [(.int n.toInt32)]))
  refine Go.st (fun _ => XS.istoreN X136.here C.hx rfl (hb C.hby d3_14) rfl (l' := #[rv q, rv b135, rv a1, iv n.toInt32, .unset, .unset]) rfl) ?_
  show Go p e below s n0 _ _ _ (T136.setTop (mkF m 15 #[rv q, rv b135, rv a1, iv n.toInt32, .unset, .unset] []))
  refine Go.st (fun _ => XS.iconst X136.here C.hx rfl (hb C.hby d3_15)) ?_
  show Go p e below s n0 _ _ _ (T136.setTop (mkF m 16 #[rv q, rv b135, rv a1, iv n.toInt32, .unset, .unset] [(.int 0)]))
  refine Go.st (fun _ => XS.istore X136.here C.hx rfl (hb C.hby d3_16) rfl (l' := #[rv q, rv b135, rv a1, iv n.toInt32, iv 0, .unset]) rfl) ?_
  show Go p e below s n0 _ _ _ (T136.setTop (mkF m 18 #[rv q, rv b135, rv a1, iv n.toInt32, iv 0, .unset] []))
  exact loop1 C cc n hc hn fs hfs q a1 b135 h0 ge135 old_b135 ne_a1_b135 ne_q_b135 (by show 0 + 1 + 1 + cc ≤ 6; omega) (by show 0 + 4 + 4 + 4 * cc ≤ 24; omega) (by show 0 + 1 + 1 + cc ≤ 6; omega) (by show 0 + 4 + 4 + 4 * cc ≤ 24; omega) (fun v h q => q) n 0 T136 h135 _ (Or.inl rfl) (by omega) X136 (A1.ext E135) (Fld.ext E135 FL) (Fld.ext E135 FI) (by rw [← dg_zero]; have u := A135; rw [cl32 (by omega)] at u; exact u) K135
theorem d1_0 : decode prog_77_method_1_code 0 = .ok (.aload_n 0, 1) := by decide +kernel
theorem d1_1 : decode prog_77_method_1_code 1 = .ok (.invokespecial 7, 3) := by decide +kernel
theorem d1_4 : decode prog_77_method_1_code 4 = .ok (.aload_n 0, 1) := by decide +kernel
theorem d1_5 : decode prog_77_method_1_code 5 = .ok (.iload_n 1, 1) := by decide +kernel
theorem d1_6 : decode prog_77_method_1_code 6 = .ok (.putfield 13, 3) := by decide +kernel
theorem d1_9 : decode prog_77_method_1_code 9 = .ok (.aload_n 0, 1) := by decide +kernel
theorem d1_10 : decode prog_77_method_1_code 10 = .ok (.aload_n 2, 1) := by decide +kernel
theorem d1_11 : decode prog_77_method_1_code 11 = .ok (.putfield 19, 3) := by decide +kernel
theorem d1_14 : decode prog_77_method_1_code 14 = .ok (.aload_n 0, 1) := by decide +kernel
theorem d1_15 : decode prog_77_method_1_code 15 = .ok (.aload_n 3, 1) := by decide +kernel
theorem d1_16 : decode prog_77_method_1_code 16 = .ok (.putfield 23, 3) := by decide +kernel
theorem d1_19 : decode prog_77_method_1_code 19 = .ok (.aload_n 0, 1) := by decide +kernel
theorem d1_20 : decode prog_77_method_1_code 20 = .ok (.iload 4, 2) := by decide +kernel
theorem d1_22 : decode prog_77_method_1_code 22 = .ok (.putfield 27, 3) := by decide +kernel
theorem d1_25 : decode prog_77_method_1_code 25 = .ok (.aload_n 0, 1) := by decide +kernel
theorem d1_26 : decode prog_77_method_1_code 26 = .ok (.aload 5, 2) := by decide +kernel
theorem d1_28 : decode prog_77_method_1_code 28 = .ok (.putfield 30, 3) := by decide +kernel
theorem d1_31 : decode prog_77_method_1_code 31 = .ok (.aload_n 0, 1) := by decide +kernel
theorem d1_32 : decode prog_77_method_1_code 32 = .ok (.aload 6, 2) := by decide +kernel
theorem d1_34 : decode prog_77_method_1_code 34 = .ok (.putfield 33, 3) := by decide +kernel
theorem d1_37 : decode prog_77_method_1_code 37 = .ok (.return_, 1) := by decide +kernel
theorem pf_1 : plainFor (⟨"com/example/layrd/layrd/layout/LayeredGraph", "<init>", "(I[I[DI[I[I)V"⟩ : MethodName) = true := plainFor_of_name (by first | (simp [plainName, overriddenIn]; done) | decide +kernel)
theorem pd_1 : parseMethodDescriptor "(I[I[DI[I[I)V" = some ⟨[.int, (.array .int), (.array .double), .int, (.array .int), (.array .int)], none⟩ := by decide +kernel
set_option maxRecDepth 65536 in
set_option maxHeartbeats 40000000 in
theorem con_init (l : Launch) (Z : State) (a0 : Array Value) (hw : ∀ d ∈ tables_1, d.before a0 Z = true) (n0 : Nat) (h0 : Heap) (Z0 : n0 ≤ h0.size) (q : Addr) (lz bz : Int32) (a1 a2 a5 a6 : Addr) (gq : n0 ≤ q) (E : Exa Z h0 q "com/example/layrd/layrd/layout/LayeredGraph") (Flayers : Fld Z h0 q "com/example/layrd/layrd/layout/LayeredGraph" "layers" "I" (.int 0)) (FitemLayer : Fld Z h0 q "com/example/layrd/layrd/layout/LayeredGraph" "itemLayer" "[I" .null) (Fwidth : Fld Z h0 q "com/example/layrd/layrd/layout/LayeredGraph" "width" "[D" .null) (Fboxes : Fld Z h0 q "com/example/layrd/layrd/layout/LayeredGraph" "boxes" "I" (.int 0)) (Fupper : Fld Z h0 q "com/example/layrd/layrd/layout/LayeredGraph" "upper" "[I" .null) (Flower : Fld Z h0 q "com/example/layrd/layrd/layout/LayeredGraph" "lower" "[I" .null) :
    Con l Z (⟨"com/example/layrd/layrd/layout/LayeredGraph", "<init>", "(I[I[DI[I[I)V"⟩ : MethodName) prog_77_method_1_code 7 none [] ({ frames := 1, cells := 0, slots := 0, locals := 12 } : Room) n0 #[(.ref q), (.int lz), (.ref a1), (.ref a2), (.int bz), (.ref a5), (.ref a6)] h0 (fun v h => v = none ∧ Exa Z h q "com/example/layrd/layrd/layout/LayeredGraph" ∧ Fld Z h q "com/example/layrd/layrd/layout/LayeredGraph" "layers" "I" (.int lz) ∧ Fld Z h q "com/example/layrd/layrd/layout/LayeredGraph" "itemLayer" "[I" (.ref a1) ∧ Keep h0 h [q]) := by
  refine Con.mk pf_1 hw Z0 ?_
  intro p e s m below meth c T0 C X0
  have ef : entryFrame m #[(.ref q), (.int lz), (.ref a1), (.ref a2), (.int bz), (.ref a5), (.ref a6)] 7 = mkF m 0 #[rv q, iv lz, rv a1, rv a2, iv bz, rv a5, rv a6] [] := by first | (simp [entryFrame, mkF, argsToLocals, Value.category]; done) | rfl
  rw [ef]
  show Go p e below s n0 _ _ _ (T0.setTop (mkF m 0 #[rv q, iv lz, rv a1, rv a2, iv bz, rv a5, rv a6] []))
  refine Go.st (fun _ => XS.aloadN X0.here C.hx rfl (hb C.hby d1_0) rfl rfl) ?_
  show Go p e below s n0 _ _ _ (T0.setTop (mkF m 1 #[rv q, iv lz, rv a1, rv a2, iv bz, rv a5, rv a6] [(.ref q)]))
  refine Go.initO C X0 (W := 0) (wd 9 rfl) (wd 10 rfl) (wd 11 rfl) rfl d1_1 (by decide) (Nat.le_of_ble_eq_true rfl) (by decide) (fun T137 X137 => ?_)
  show Go p e below s n0 _ _ _ (T137.setTop (mkF m 4 #[rv q, iv lz, rv a1, rv a2, iv bz, rv a5, rv a6] []))
  refine Go.st (fun _ => XS.aloadN X137.here C.hx rfl (hb C.hby d1_4) rfl rfl) ?_
  show Go p e below s n0 _ _ _ (T137.setTop (mkF m 5 #[rv q, iv lz, rv a1, rv a2, iv bz, rv a5, rv a6] [(.ref q)]))
  refine Go.st (fun _ => XS.iloadN X137.here C.hx rfl (hb C.hby d1_5) rfl) ?_
  show Go p e below s n0 _ _ _ (T137.setTop (mkF m 6 #[rv q, iv lz, rv a1, rv a2, iv bz, rv a5, rv a6] [(.int lz), (.ref q)]))
  refine Go.putF C X137 (wd 12 rfl) Flayers E (Or.inr ⟨(wd 13 rfl), rfl, rfl⟩) (wd 3 rfl) (ty := .int) (by decide) rfl rfl gq d1_6 (fun T138 h138 X138 W138 F138 => ?_)
  have FitemLayer_139 : Fld Z h138 q "com/example/layrd/layrd/layout/LayeredGraph" "itemLayer" "[I" .null := (Fld.other W138 FitemLayer (Or.inr (slot_ne (Or.inr (C.w (wd 15 rfl))) (Or.inr (C.w (wd 13 rfl))) (by decide) (t := (.array .int)) (t' := .int) (by decide) (by decide))))
  have Fwidth_140 : Fld Z h138 q "com/example/layrd/layrd/layout/LayeredGraph" "width" "[D" .null := (Fld.other W138 Fwidth (Or.inr (slot_ne (Or.inr (C.w (wd 17 rfl))) (Or.inr (C.w (wd 13 rfl))) (by decide) (t := (.array .double)) (t' := .int) (by decide) (by decide))))
  have Fboxes_141 : Fld Z h138 q "com/example/layrd/layrd/layout/LayeredGraph" "boxes" "I" (.int 0) := (Fld.other W138 Fboxes (Or.inr (slot_ne (Or.inr (C.w (wd 19 rfl))) (Or.inr (C.w (wd 13 rfl))) (by decide) (t := .int) (t' := .int) (by decide) (by decide))))
  have Fupper_142 : Fld Z h138 q "com/example/layrd/layrd/layout/LayeredGraph" "upper" "[I" .null := (Fld.other W138 Fupper (Or.inr (slot_ne (Or.inr (C.w (wd 21 rfl))) (Or.inr (C.w (wd 13 rfl))) (by decide) (t := (.array .int)) (t' := .int) (by decide) (by decide))))
  have Flower_143 : Fld Z h138 q "com/example/layrd/layrd/layout/LayeredGraph" "lower" "[I" .null := (Fld.other W138 Flower (Or.inr (slot_ne (Or.inr (C.w (wd 23 rfl))) (Or.inr (C.w (wd 13 rfl))) (by decide) (t := (.array .int)) (t' := .int) (by decide) (by decide))))
  have K138 : Keep h0 h138 [q] := (Keep.refl h0 [q]).wr W138 (Or.inl (by simp))
  show Go p e below s n0 _ _ _ (T138.setTop (mkF m 9 #[rv q, iv lz, rv a1, rv a2, iv bz, rv a5, rv a6] []))
  refine Go.st (fun _ => XS.aloadN X138.here C.hx rfl (hb C.hby d1_9) rfl rfl) ?_
  show Go p e below s n0 _ _ _ (T138.setTop (mkF m 10 #[rv q, iv lz, rv a1, rv a2, iv bz, rv a5, rv a6] [(.ref q)]))
  refine Go.st (fun _ => XS.aloadN X138.here C.hx rfl (hb C.hby d1_10) rfl rfl) ?_
  show Go p e below s n0 _ _ _ (T138.setTop (mkF m 11 #[rv q, iv lz, rv a1, rv a2, iv bz, rv a5, rv a6] [(.ref a1), (.ref q)]))
  refine Go.putF C X138 (wd 14 rfl) FitemLayer_139 (Exa.wr W138 E) (Or.inr ⟨(wd 15 rfl), rfl, rfl⟩) (wd 3 rfl) (ty := (.array .int)) (by decide) rfl rfl gq d1_11 (fun T144 h144 X144 W144 F144 => ?_)
  have Flayers_145 : Fld Z h144 q "com/example/layrd/layrd/layout/LayeredGraph" "layers" "I" (.int lz) := (Fld.other W144 F138 (Or.inr (slot_ne (Or.inr (C.w (wd 13 rfl))) (Or.inr (C.w (wd 15 rfl))) (by decide) (t := .int) (t' := (.array .int)) (by decide) (by decide))))
  have Fwidth_146 : Fld Z h144 q "com/example/layrd/layrd/layout/LayeredGraph" "width" "[D" .null := (Fld.other W144 Fwidth_140 (Or.inr (slot_ne (Or.inr (C.w (wd 17 rfl))) (Or.inr (C.w (wd 15 rfl))) (by decide) (t := (.array .double)) (t' := (.array .int)) (by decide) (by decide))))
  have Fboxes_147 : Fld Z h144 q "com/example/layrd/layrd/layout/LayeredGraph" "boxes" "I" (.int 0) := (Fld.other W144 Fboxes_141 (Or.inr (slot_ne (Or.inr (C.w (wd 19 rfl))) (Or.inr (C.w (wd 15 rfl))) (by decide) (t := .int) (t' := (.array .int)) (by decide) (by decide))))
  have Fupper_148 : Fld Z h144 q "com/example/layrd/layrd/layout/LayeredGraph" "upper" "[I" .null := (Fld.other W144 Fupper_142 (Or.inr (slot_ne (Or.inr (C.w (wd 21 rfl))) (Or.inr (C.w (wd 15 rfl))) (by decide) (t := (.array .int)) (t' := (.array .int)) (by decide) (by decide))))
  have Flower_149 : Fld Z h144 q "com/example/layrd/layrd/layout/LayeredGraph" "lower" "[I" .null := (Fld.other W144 Flower_143 (Or.inr (slot_ne (Or.inr (C.w (wd 23 rfl))) (Or.inr (C.w (wd 15 rfl))) (by decide) (t := (.array .int)) (t' := (.array .int)) (by decide) (by decide))))
  have K144 : Keep h0 h144 [q] := K138.wr W144 (Or.inl (by simp))
  show Go p e below s n0 _ _ _ (T144.setTop (mkF m 14 #[rv q, iv lz, rv a1, rv a2, iv bz, rv a5, rv a6] []))
  refine Go.st (fun _ => XS.aloadN X144.here C.hx rfl (hb C.hby d1_14) rfl rfl) ?_
  show Go p e below s n0 _ _ _ (T144.setTop (mkF m 15 #[rv q, iv lz, rv a1, rv a2, iv bz, rv a5, rv a6] [(.ref q)]))
  refine Go.st (fun _ => XS.aloadN X144.here C.hx rfl (hb C.hby d1_15) rfl rfl) ?_
  show Go p e below s n0 _ _ _ (T144.setTop (mkF m 16 #[rv q, iv lz, rv a1, rv a2, iv bz, rv a5, rv a6] [(.ref a2), (.ref q)]))
  refine Go.putF C X144 (wd 16 rfl) Fwidth_146 (Exa.wr W144 (Exa.wr W138 E)) (Or.inr ⟨(wd 17 rfl), rfl, rfl⟩) (wd 3 rfl) (ty := (.array .double)) (by decide) rfl rfl gq d1_16 (fun T150 h150 X150 W150 F150 => ?_)
  have E_151 : Exa Z h150 q "com/example/layrd/layrd/layout/LayeredGraph" := (Exa.wr W150 (Exa.wr W144 (Exa.wr W138 E)))
  have Flayers_152 : Fld Z h150 q "com/example/layrd/layrd/layout/LayeredGraph" "layers" "I" (.int lz) := (Fld.other W150 Flayers_145 (Or.inr (slot_ne (Or.inr (C.w (wd 13 rfl))) (Or.inr (C.w (wd 17 rfl))) (by decide) (t := .int) (t' := (.array .double)) (by decide) (by decide))))
  have FitemLayer_153 : Fld Z h150 q "com/example/layrd/layrd/layout/LayeredGraph" "itemLayer" "[I" (.ref a1) := (Fld.other W150 F144 (Or.inr (slot_ne (Or.inr (C.w (wd 15 rfl))) (Or.inr (C.w (wd 17 rfl))) (by decide) (t := (.array .int)) (t' := (.array .double)) (by decide) (by decide))))
  have Fboxes_154 : Fld Z h150 q "com/example/layrd/layrd/layout/LayeredGraph" "boxes" "I" (.int 0) := (Fld.other W150 Fboxes_147 (Or.inr (slot_ne (Or.inr (C.w (wd 19 rfl))) (Or.inr (C.w (wd 17 rfl))) (by decide) (t := .int) (t' := (.array .double)) (by decide) (by decide))))
  have Fupper_155 : Fld Z h150 q "com/example/layrd/layrd/layout/LayeredGraph" "upper" "[I" .null := (Fld.other W150 Fupper_148 (Or.inr (slot_ne (Or.inr (C.w (wd 21 rfl))) (Or.inr (C.w (wd 17 rfl))) (by decide) (t := (.array .int)) (t' := (.array .double)) (by decide) (by decide))))
  have Flower_156 : Fld Z h150 q "com/example/layrd/layrd/layout/LayeredGraph" "lower" "[I" .null := (Fld.other W150 Flower_149 (Or.inr (slot_ne (Or.inr (C.w (wd 23 rfl))) (Or.inr (C.w (wd 17 rfl))) (by decide) (t := (.array .int)) (t' := (.array .double)) (by decide) (by decide))))
  have K150 : Keep h0 h150 [q] := K144.wr W150 (Or.inl (by simp))
  show Go p e below s n0 _ _ _ (T150.setTop (mkF m 19 #[rv q, iv lz, rv a1, rv a2, iv bz, rv a5, rv a6] []))
  refine Go.st (fun _ => XS.aloadN X150.here C.hx rfl (hb C.hby d1_19) rfl rfl) ?_
  show Go p e below s n0 _ _ _ (T150.setTop (mkF m 20 #[rv q, iv lz, rv a1, rv a2, iv bz, rv a5, rv a6] [(.ref q)]))
  refine Go.st (fun _ => XS.iload X150.here C.hx rfl (hb C.hby d1_20) rfl) ?_
  show Go p e below s n0 _ _ _ (T150.setTop (mkF m 22 #[rv q, iv lz, rv a1, rv a2, iv bz, rv a5, rv a6] [(.int bz), (.ref q)]))
  refine Go.putF C X150 (wd 18 rfl) Fboxes_154 E_151 (Or.inr ⟨(wd 19 rfl), rfl, rfl⟩) (wd 3 rfl) (ty := .int) (by decide) rfl rfl gq d1_22 (fun T157 h157 X157 W157 F157 => ?_)
  have Flayers_158 : Fld Z h157 q "com/example/layrd/layrd/layout/LayeredGraph" "layers" "I" (.int lz) := (Fld.other W157 Flayers_152 (Or.inr (slot_ne (Or.inr (C.w (wd 13 rfl))) (Or.inr (C.w (wd 19 rfl))) (by decide) (t := .int) (t' := .int) (by decide) (by decide))))
  have FitemLayer_159 : Fld Z h157 q "com/example/layrd/layrd/layout/LayeredGraph" "itemLayer" "[I" (.ref a1) := (Fld.other W157 FitemLayer_153 (Or.inr (slot_ne (Or.inr (C.w (wd 15 rfl))) (Or.inr (C.w (wd 19 rfl))) (by decide) (t := (.array .int)) (t' := .int) (by decide) (by decide))))
  have Fwidth_160 : Fld Z h157 q "com/example/layrd/layrd/layout/LayeredGraph" "width" "[D" (.ref a2) := (Fld.other W157 F150 (Or.inr (slot_ne (Or.inr (C.w (wd 17 rfl))) (Or.inr (C.w (wd 19 rfl))) (by decide) (t := (.array .double)) (t' := .int) (by decide) (by decide))))
  have Fupper_161 : Fld Z h157 q "com/example/layrd/layrd/layout/LayeredGraph" "upper" "[I" .null := (Fld.other W157 Fupper_155 (Or.inr (slot_ne (Or.inr (C.w (wd 21 rfl))) (Or.inr (C.w (wd 19 rfl))) (by decide) (t := (.array .int)) (t' := .int) (by decide) (by decide))))
  have Flower_162 : Fld Z h157 q "com/example/layrd/layrd/layout/LayeredGraph" "lower" "[I" .null := (Fld.other W157 Flower_156 (Or.inr (slot_ne (Or.inr (C.w (wd 23 rfl))) (Or.inr (C.w (wd 19 rfl))) (by decide) (t := (.array .int)) (t' := .int) (by decide) (by decide))))
  have K157 : Keep h0 h157 [q] := K150.wr W157 (Or.inl (by simp))
  show Go p e below s n0 _ _ _ (T157.setTop (mkF m 25 #[rv q, iv lz, rv a1, rv a2, iv bz, rv a5, rv a6] []))
  refine Go.st (fun _ => XS.aloadN X157.here C.hx rfl (hb C.hby d1_25) rfl rfl) ?_
  show Go p e below s n0 _ _ _ (T157.setTop (mkF m 26 #[rv q, iv lz, rv a1, rv a2, iv bz, rv a5, rv a6] [(.ref q)]))
  refine Go.st (fun _ => XS.aload X157.here C.hx rfl (hb C.hby d1_26) rfl rfl) ?_
  show Go p e below s n0 _ _ _ (T157.setTop (mkF m 28 #[rv q, iv lz, rv a1, rv a2, iv bz, rv a5, rv a6] [(.ref a5), (.ref q)]))
  refine Go.putF C X157 (wd 20 rfl) Fupper_161 (Exa.wr W157 E_151) (Or.inr ⟨(wd 21 rfl), rfl, rfl⟩) (wd 3 rfl) (ty := (.array .int)) (by decide) rfl rfl gq d1_28 (fun T163 h163 X163 W163 F163 => ?_)
  have Flayers_164 : Fld Z h163 q "com/example/layrd/layrd/layout/LayeredGraph" "layers" "I" (.int lz) := (Fld.other W163 Flayers_158 (Or.inr (slot_ne (Or.inr (C.w (wd 13 rfl))) (Or.inr (C.w (wd 21 rfl))) (by decide) (t := .int) (t' := (.array .int)) (by decide) (by decide))))
  have FitemLayer_165 : Fld Z h163 q "com/example/layrd/layrd/layout/LayeredGraph" "itemLayer" "[I" (.ref a1) := (Fld.other W163 FitemLayer_159 (Or.inr (slot_ne (Or.inr (C.w (wd 15 rfl))) (Or.inr (C.w (wd 21 rfl))) (by decide) (t := (.array .int)) (t' := (.array .int)) (by decide) (by decide))))
  have Fwidth_166 : Fld Z h163 q "com/example/layrd/layrd/layout/LayeredGraph" "width" "[D" (.ref a2) := (Fld.other W163 Fwidth_160 (Or.inr (slot_ne (Or.inr (C.w (wd 17 rfl))) (Or.inr (C.w (wd 21 rfl))) (by decide) (t := (.array .double)) (t' := (.array .int)) (by decide) (by decide))))
  have Fboxes_167 : Fld Z h163 q "com/example/layrd/layrd/layout/LayeredGraph" "boxes" "I" (.int bz) := (Fld.other W163 F157 (Or.inr (slot_ne (Or.inr (C.w (wd 19 rfl))) (Or.inr (C.w (wd 21 rfl))) (by decide) (t := .int) (t' := (.array .int)) (by decide) (by decide))))
  have Flower_168 : Fld Z h163 q "com/example/layrd/layrd/layout/LayeredGraph" "lower" "[I" .null := (Fld.other W163 Flower_162 (Or.inr (slot_ne (Or.inr (C.w (wd 23 rfl))) (Or.inr (C.w (wd 21 rfl))) (by decide) (t := (.array .int)) (t' := (.array .int)) (by decide) (by decide))))
  have K163 : Keep h0 h163 [q] := K157.wr W163 (Or.inl (by simp))
  show Go p e below s n0 _ _ _ (T163.setTop (mkF m 31 #[rv q, iv lz, rv a1, rv a2, iv bz, rv a5, rv a6] []))
  refine Go.st (fun _ => XS.aloadN X163.here C.hx rfl (hb C.hby d1_31) rfl rfl) ?_
  show Go p e below s n0 _ _ _ (T163.setTop (mkF m 32 #[rv q, iv lz, rv a1, rv a2, iv bz, rv a5, rv a6] [(.ref q)]))
  refine Go.st (fun _ => XS.aload X163.here C.hx rfl (hb C.hby d1_32) rfl rfl) ?_
  show Go p e below s n0 _ _ _ (T163.setTop (mkF m 34 #[rv q, iv lz, rv a1, rv a2, iv bz, rv a5, rv a6] [(.ref a6), (.ref q)]))
  refine Go.putF C X163 (wd 22 rfl) Flower_168 (Exa.wr W163 (Exa.wr W157 E_151)) (Or.inr ⟨(wd 23 rfl), rfl, rfl⟩) (wd 3 rfl) (ty := (.array .int)) (by decide) rfl rfl gq d1_34 (fun T169 h169 X169 W169 F169 => ?_)
  have E_170 : Exa Z h169 q "com/example/layrd/layrd/layout/LayeredGraph" := (Exa.wr W169 (Exa.wr W163 (Exa.wr W157 E_151)))
  have Flayers_171 : Fld Z h169 q "com/example/layrd/layrd/layout/LayeredGraph" "layers" "I" (.int lz) := (Fld.other W169 Flayers_164 (Or.inr (slot_ne (Or.inr (C.w (wd 13 rfl))) (Or.inr (C.w (wd 23 rfl))) (by decide) (t := .int) (t' := (.array .int)) (by decide) (by decide))))
  have FitemLayer_172 : Fld Z h169 q "com/example/layrd/layrd/layout/LayeredGraph" "itemLayer" "[I" (.ref a1) := (Fld.other W169 FitemLayer_165 (Or.inr (slot_ne (Or.inr (C.w (wd 15 rfl))) (Or.inr (C.w (wd 23 rfl))) (by decide) (t := (.array .int)) (t' := (.array .int)) (by decide) (by decide))))
  have Fwidth_173 : Fld Z h169 q "com/example/layrd/layrd/layout/LayeredGraph" "width" "[D" (.ref a2) := (Fld.other W169 Fwidth_166 (Or.inr (slot_ne (Or.inr (C.w (wd 17 rfl))) (Or.inr (C.w (wd 23 rfl))) (by decide) (t := (.array .double)) (t' := (.array .int)) (by decide) (by decide))))
  have Fboxes_174 : Fld Z h169 q "com/example/layrd/layrd/layout/LayeredGraph" "boxes" "I" (.int bz) := (Fld.other W169 Fboxes_167 (Or.inr (slot_ne (Or.inr (C.w (wd 19 rfl))) (Or.inr (C.w (wd 23 rfl))) (by decide) (t := .int) (t' := (.array .int)) (by decide) (by decide))))
  have Fupper_175 : Fld Z h169 q "com/example/layrd/layrd/layout/LayeredGraph" "upper" "[I" (.ref a5) := (Fld.other W169 F163 (Or.inr (slot_ne (Or.inr (C.w (wd 21 rfl))) (Or.inr (C.w (wd 23 rfl))) (by decide) (t := (.array .int)) (t' := (.array .int)) (by decide) (by decide))))
  have K169 : Keep h0 h169 [q] := K163.wr W169 (Or.inl (by simp))
  show Go p e below s n0 _ _ _ (T169.setTop (mkF m 37 #[rv q, iv lz, rv a1, rv a2, iv bz, rv a5, rv a6] []))
  exact Go.retV C X169 d1_37 ⟨rfl, E_170, Flayers_171, FitemLayer_172, K169⟩ (by decide) (by decide)
theorem d5_0 : decode method_3_code 0 = .ok (.iconst 0, 1) := by decide +kernel
theorem d5_1 : decode method_3_code 1 = .ok (.istore_n 3, 1) := by decide +kernel
theorem d5_2 : decode method_3_code 2 = .ok (.aload_n 0, 1) := by decide +kernel
theorem d5_3 : decode method_3_code 3 = .ok (.iconst 0, 1) := by decide +kernel
theorem d5_4 : decode method_3_code 4 = .ok (.iaload, 1) := by decide +kernel
theorem d5_5 : decode method_3_code 5 = .ok (.iload_n 1, 1) := by decide +kernel
theorem d5_6 : decode method_3_code 6 = .ok (.if_icmp .ne 13, 3) := by decide +kernel
theorem d5_9 : decode method_3_code 9 = .ok (.iload_n 3, 1) := by decide +kernel
theorem d5_10 : decode method_3_code 10 = .ok (.iload_n 2, 1) := by decide +kernel
theorem d5_11 : decode method_3_code 11 = .ok (.if_icmp .ne 5, 3) := by decide +kernel
theorem d5_14 : decode method_3_code 14 = .ok (.iconst 0, 1) := by decide +kernel
theorem d5_15 : decode method_3_code 15 = .ok (.ireturn, 1) := by decide +kernel
theorem d5_16 : decode method_3_code 16 = .ok (.iinc 3 1, 3) := by decide +kernel
theorem d5_19 : decode method_3_code 19 = .ok (.aload_n 0, 1) := by decide +kernel
theorem d5_20 : decode method_3_code 20 = .ok (.iconst 1, 1) := by decide +kernel
theorem d5_21 : decode method_3_code 21 = .ok (.iaload, 1) := by decide +kernel
theorem d5_22 : decode method_3_code 22 = .ok (.iload_n 1, 1) := by decide +kernel
theorem d5_23 : decode method_3_code 23 = .ok (.if_icmp .ne 13, 3) := by decide +kernel
theorem d5_26 : decode method_3_code 26 = .ok (.iload_n 3, 1) := by decide +kernel
theorem d5_27 : decode method_3_code 27 = .ok (.iload_n 2, 1) := by decide +kernel
theorem d5_28 : decode method_3_code 28 = .ok (.if_icmp .ne 5, 3) := by decide +kernel
theorem d5_31 : decode method_3_code 31 = .ok (.iconst 1, 1) := by decide +kernel
theorem d5_32 : decode method_3_code 32 = .ok (.ireturn, 1) := by decide +kernel
theorem d5_33 : decode method_3_code 33 = .ok (.iinc 3 1, 3) := by decide +kernel
theorem d5_36 : decode method_3_code 36 = .ok (.aload_n 0, 1) := by decide +kernel
theorem d5_37 : decode method_3_code 37 = .ok (.iconst 2, 1) := by decide +kernel
theorem d5_38 : decode method_3_code 38 = .ok (.iaload, 1) := by decide +kernel
theorem d5_39 : decode method_3_code 39 = .ok (.iload_n 1, 1) := by decide +kernel
theorem d5_40 : decode method_3_code 40 = .ok (.if_icmp .ne 13, 3) := by decide +kernel
theorem d5_43 : decode method_3_code 43 = .ok (.iload_n 3, 1) := by decide +kernel
theorem d5_44 : decode method_3_code 44 = .ok (.iload_n 2, 1) := by decide +kernel
theorem d5_45 : decode method_3_code 45 = .ok (.if_icmp .ne 5, 3) := by decide +kernel
theorem d5_48 : decode method_3_code 48 = .ok (.iconst 2, 1) := by decide +kernel
theorem d5_49 : decode method_3_code 49 = .ok (.ireturn, 1) := by decide +kernel
theorem d5_50 : decode method_3_code 50 = .ok (.iinc 3 1, 3) := by decide +kernel
theorem d5_53 : decode method_3_code 53 = .ok (.aload_n 0, 1) := by decide +kernel
theorem d5_54 : decode method_3_code 54 = .ok (.iconst 3, 1) := by decide +kernel
theorem d5_55 : decode method_3_code 55 = .ok (.iaload, 1) := by decide +kernel
theorem d5_56 : decode method_3_code 56 = .ok (.iload_n 1, 1) := by decide +kernel
theorem d5_57 : decode method_3_code 57 = .ok (.if_icmp .ne 13, 3) := by decide +kernel
theorem d5_60 : decode method_3_code 60 = .ok (.iload_n 3, 1) := by decide +kernel
theorem d5_61 : decode method_3_code 61 = .ok (.iload_n 2, 1) := by decide +kernel
theorem d5_62 : decode method_3_code 62 = .ok (.if_icmp .ne 5, 3) := by decide +kernel
theorem d5_65 : decode method_3_code 65 = .ok (.iconst 3, 1) := by decide +kernel
theorem d5_66 : decode method_3_code 66 = .ok (.ireturn, 1) := by decide +kernel
theorem d5_67 : decode method_3_code 67 = .ok (.iinc 3 1, 3) := by decide +kernel
theorem d5_70 : decode method_3_code 70 = .ok (.iconst (-1), 1) := by decide +kernel
theorem d5_71 : decode method_3_code 71 = .ok (.ireturn, 1) := by decide +kernel
theorem pf_5 : plainFor (⟨"com/example/layrd/layrd/layout/LayeredGraphItemOrderPinLaw", "kth", "([III)I"⟩ : MethodName) = true := plainFor_of_name (by first | (simp [plainName, overriddenIn]; done) | decide +kernel)
theorem pd_5 : parseMethodDescriptor "([III)I" = some ⟨[(.array .int), .int, .int], some .int⟩ := by decide +kernel
def kthF (l0 l1 l2 l3 l : Int32) (k : Nat) : Int32 := (((if l0 = l then [0] else []) ++ (if l1 = l then [1] else []) ++ (if l2 = l then [2] else []) ++ (if l3 = l then [3] else [])) : List Int32).getD k (-1)
def fsF (g0 g1 g2 g3 : Nat) : Nat → Nat := fun j => [g0, g1, g2, g3].getD j 0
theorem fsF0 (g0 g1 g2 g3 : Nat) : fsF g0 g1 g2 g3 0 = g0 := rfl
theorem tsI0 : tsI 0 = 0 := rfl
theorem fsF1 (g0 g1 g2 g3 : Nat) : fsF g0 g1 g2 g3 1 = g1 := rfl
theorem tsI1 : tsI 1 = 1 := rfl
theorem fsF2 (g0 g1 g2 g3 : Nat) : fsF g0 g1 g2 g3 2 = g2 := rfl
theorem tsI2 : tsI 2 = 2 := rfl
theorem fsF3 (g0 g1 g2 g3 : Nat) : fsF g0 g1 g2 g3 3 = g3 := rfl
theorem tsI3 : tsI 3 = 3 := rfl
set_option maxRecDepth 65536 in
set_option maxHeartbeats 40000000 in
theorem con_kth0 (l : Launch) (Z : State) (a0 : Array Value) (hw : ∀ d ∈ tables_1, d.before a0 Z = true) (n0 : Nat) (h0 : Heap) (Z0 : n0 ≤ h0.size) (la : Addr) (lz : Int32) (g0 g1 g2 g3 : Nat) (AL : AR Z h0 la .int [(.int g0.toInt32), (.int g1.toInt32), (.int g2.toInt32), (.int g3.toInt32)]) :
    Con l Z (⟨"com/example/layrd/layrd/layout/LayeredGraphItemOrderPinLaw", "kth", "([III)I"⟩ : MethodName) method_3_code 4 (some .int) [] ({ frames := 0, cells := 0, slots := 0, locals := 0 } : Room) n0 #[(.ref la), (.int lz), (.int 0)] h0 (fun v h => v = some (.int (kthF g0.toInt32 g1.toInt32 g2.toInt32 g3.toInt32 lz 0)) ∧ h = h0) := by
  refine Con.mk pf_5 hw Z0 ?_
  intro p e s m below meth c T0 C X0
  have ef : entryFrame m #[(.ref la), (.int lz), (.int 0)] 4 = mkF m 0 #[rv la, iv lz, iv 0, .unset] [] := by first | (simp [entryFrame, mkF, argsToLocals, Value.category]; done) | rfl
  rw [ef]
  show Go p e below s n0 _ _ _ (T0.setTop (mkF m 0 #[rv la, iv lz, iv 0, .unset] []))
  refine Go.st (fun _ => XS.iconst X0.here C.hx rfl (hb C.hby d5_0)) ?_
  show Go p e below s n0 _ _ _ (T0.setTop (mkF m 1 #[rv la, iv lz, iv 0, .unset] [(.int 0)]))
  refine Go.st (fun _ => XS.istoreN X0.here C.hx rfl (hb C.hby d5_1) rfl (l' := #[rv la, iv lz, iv 0, iv 0]) rfl) ?_
  show Go p e below s n0 _ _ _ (T0.setTop (mkF m 2 #[rv la, iv lz, iv 0, iv 0] []))
  refine Go.st (fun _ => XS.aloadN X0.here C.hx rfl (hb C.hby d5_2) rfl rfl) ?_
  show Go p e below s n0 _ _ _ (T0.setTop (mkF m 3 #[rv la, iv lz, iv 0, iv 0] [(.ref la)]))
  refine Go.st (fun _ => XS.iconst X0.here C.hx rfl (hb C.hby d5_3)) ?_
  show Go p e below s n0 _ _ _ (T0.setTop (mkF m 4 #[rv la, iv lz, iv 0, iv 0] [(.int 0), (.ref la)]))
  refine Go.iaload C X0 AL (by decide) rfl d5_4 ?_
  show Go p e below s n0 _ _ _ (T0.setTop (mkF m 5 #[rv la, iv lz, iv 0, iv 0] [(.int g0.toInt32)]))
  refine Go.st (fun _ => XS.iloadN X0.here C.hx rfl (hb C.hby d5_5) rfl) ?_
  show Go p e below s n0 _ _ _ (T0.setTop (mkF m 6 #[rv la, iv lz, iv 0, iv 0] [(.int lz), (.int g0.toInt32)]))
  refine Go.icmp_ne C X0 (pc' := 19) d5_6 (by decide) (by decide) (fun hc6_176 => ?_) (fun hc6_176 => ?_)
  · show Go p e below s n0 _ _ _ (T0.setTop (mkF m 19 #[rv la, iv lz, iv 0, iv 0] []))
    refine Go.st (fun _ => XS.aloadN X0.here C.hx rfl (hb C.hby d5_19) rfl rfl) ?_
    show Go p e below s n0 _ _ _ (T0.setTop (mkF m 20 #[rv la, iv lz, iv 0, iv 0] [(.ref la)]))
    refine Go.st (fun _ => XS.iconst X0.here C.hx rfl (hb C.hby d5_20)) ?_
    show Go p e below s n0 _ _ _ (T0.setTop (mkF m 21 #[rv la, iv lz, iv 0, iv 0] [(.int 1), (.ref la)]))
    refine Go.iaload C X0 AL (by decide) rfl d5_21 ?_
    show Go p e below s n0 _ _ _ (T0.setTop (mkF m 22 #[rv la, iv lz, iv 0, iv 0] [(.int g1.toInt32)]))
    refine Go.st (fun _ => XS.iloadN X0.here C.hx rfl (hb C.hby d5_22) rfl) ?_
    show Go p e below s n0 _ _ _ (T0.setTop (mkF m 23 #[rv la, iv lz, iv 0, iv 0] [(.int lz), (.int g1.toInt32)]))
    refine Go.icmp_ne C X0 (pc' := 36) d5_23 (by decide) (by decide) (fun hc23_177 => ?_) (fun hc23_177 => ?_)
    · show Go p e below s n0 _ _ _ (T0.setTop (mkF m 36 #[rv la, iv lz, iv 0, iv 0] []))
      refine Go.st (fun _ => XS.aloadN X0.here C.hx rfl (hb C.hby d5_36) rfl rfl) ?_
      show Go p e below s n0 _ _ _ (T0.setTop (mkF m 37 #[rv la, iv lz, iv 0, iv 0] [(.ref la)]))
      refine Go.st (fun _ => XS.iconst X0.here C.hx rfl (hb C.hby d5_37)) ?_
      show Go p e below s n0 _ _ _ (T0.setTop (mkF m 38 #[rv la, iv lz, iv 0, iv 0] [(.int 2), (.ref la)]))
      refine Go.iaload C X0 AL (by decide) rfl d5_38 ?_
      show Go p e below s n0 _ _ _ (T0.setTop (mkF m 39 #[rv la, iv lz, iv 0, iv 0] [(.int g2.toInt32)]))
      refine Go.st (fun _ => XS.iloadN X0.here C.hx rfl (hb C.hby d5_39) rfl) ?_
      show Go p e below s n0 _ _ _ (T0.setTop (mkF m 40 #[rv la, iv lz, iv 0, iv 0] [(.int lz), (.int g2.toInt32)]))
      refine Go.icmp_ne C X0 (pc' := 53) d5_40 (by decide) (by decide) (fun hc40_178 => ?_) (fun hc40_178 => ?_)
      · show Go p e below s n0 _ _ _ (T0.setTop (mkF m 53 #[rv la, iv lz, iv 0, iv 0] []))
        refine Go.st (fun _ => XS.aloadN X0.here C.hx rfl (hb C.hby d5_53) rfl rfl) ?_
        show Go p e below s n0 _ _ _ (T0.setTop (mkF m 54 #[rv la, iv lz, iv 0, iv 0] [(.ref la)]))
        refine Go.st (fun _ => XS.iconst X0.here C.hx rfl (hb C.hby d5_54)) ?_
        show Go p e below s n0 _ _ _ (T0.setTop (mkF m 55 #[rv la, iv lz, iv 0, iv 0] [(.int 3), (.ref la)]))
        refine Go.iaload C X0 AL (by decide) rfl d5_55 ?_
        show Go p e below s n0 _ _ _ (T0.setTop (mkF m 56 #[rv la, iv lz, iv 0, iv 0] [(.int g3.toInt32)]))
        refine Go.st (fun _ => XS.iloadN X0.here C.hx rfl (hb C.hby d5_56) rfl) ?_
        show Go p e below s n0 _ _ _ (T0.setTop (mkF m 57 #[rv la, iv lz, iv 0, iv 0] [(.int lz), (.int g3.toInt32)]))
        refine Go.icmp_ne C X0 (pc' := 70) d5_57 (by decide) (by decide) (fun hc57_179 => ?_) (fun hc57_179 => ?_)
        · show Go p e below s n0 _ _ _ (T0.setTop (mkF m 70 #[rv la, iv lz, iv 0, iv 0] []))
          refine Go.st (fun _ => XS.iconst X0.here C.hx rfl (hb C.hby d5_70)) ?_
          show Go p e below s n0 _ _ _ (T0.setTop (mkF m 71 #[rv la, iv lz, iv 0, iv 0] [(.int (-1))]))
          exact Go.retI C X0 d5_71 ⟨by simp [kthF, hc6_176, hc23_177, hc40_178, hc57_179], rfl⟩ (by decide) (by decide)
        · show Go p e below s n0 _ _ _ (T0.setTop (mkF m 60 #[rv la, iv lz, iv 0, iv 0] []))
          refine Go.st (fun _ => XS.iloadN X0.here C.hx rfl (hb C.hby d5_60) rfl) ?_
          show Go p e below s n0 _ _ _ (T0.setTop (mkF m 61 #[rv la, iv lz, iv 0, iv 0] [(.int 0)]))
          refine Go.st (fun _ => XS.iloadN X0.here C.hx rfl (hb C.hby d5_61) rfl) ?_
          show Go p e below s n0 _ _ _ (T0.setTop (mkF m 62 #[rv la, iv lz, iv 0, iv 0] [(.int 0), (.int 0)]))
          refine Go.icmp_ne C X0 (pc' := 67) d5_62 (by decide) (by decide) (fun hc => absurd hc (by decide)) (fun _ => ?_)
          show Go p e below s n0 _ _ _ (T0.setTop (mkF m 65 #[rv la, iv lz, iv 0, iv 0] []))
          refine Go.st (fun _ => XS.iconst X0.here C.hx rfl (hb C.hby d5_65)) ?_
          show Go p e below s n0 _ _ _ (T0.setTop (mkF m 66 #[rv la, iv lz, iv 0, iv 0] [(.int 3)]))
          exact Go.retI C X0 d5_66 ⟨by simp [kthF, hc6_176, hc23_177, hc40_178, hc57_179], rfl⟩ (by decide) (by decide)
      · show Go p e below s n0 _ _ _ (T0.setTop (mkF m 43 #[rv la, iv lz, iv 0, iv 0] []))
        refine Go.st (fun _ => XS.iloadN X0.here C.hx rfl (hb C.hby d5_43) rfl) ?_
        show Go p e below s n0 _ _ _ (T0.setTop (mkF m 44 #[rv la, iv lz, iv 0, iv 0] [(.int 0)]))
        refine Go.st (fun _ => XS.iloadN X0.here C.hx rfl (hb C.hby d5_44) rfl) ?_
        show Go p e below s n0 _ _ _ (T0.setTop (mkF m 45 #[rv la, iv lz, iv 0, iv 0] [(.int 0), (.int 0)]))
        refine Go.icmp_ne C X0 (pc' := 50) d5_45 (by decide) (by decide) (fun hc => absurd hc (by decide)) (fun _ => ?_)
        show Go p e below s n0 _ _ _ (T0.setTop (mkF m 48 #[rv la, iv lz, iv 0, iv 0] []))
        refine Go.st (fun _ => XS.iconst X0.here C.hx rfl (hb C.hby d5_48)) ?_
        show Go p e below s n0 _ _ _ (T0.setTop (mkF m 49 #[rv la, iv lz, iv 0, iv 0] [(.int 2)]))
        exact Go.retI C X0 d5_49 ⟨by simp [kthF, hc6_176, hc23_177, hc40_178], rfl⟩ (by decide) (by decide)
    · show Go p e below s n0 _ _ _ (T0.setTop (mkF m 26 #[rv la, iv lz, iv 0, iv 0] []))
      refine Go.st (fun _ => XS.iloadN X0.here C.hx rfl (hb C.hby d5_26) rfl) ?_
      show Go p e below s n0 _ _ _ (T0.setTop (mkF m 27 #[rv la, iv lz, iv 0, iv 0] [(.int 0)]))
      refine Go.st (fun _ => XS.iloadN X0.here C.hx rfl (hb C.hby d5_27) rfl) ?_
      show Go p e below s n0 _ _ _ (T0.setTop (mkF m 28 #[rv la, iv lz, iv 0, iv 0] [(.int 0), (.int 0)]))
      refine Go.icmp_ne C X0 (pc' := 33) d5_28 (by decide) (by decide) (fun hc => absurd hc (by decide)) (fun _ => ?_)
      show Go p e below s n0 _ _ _ (T0.setTop (mkF m 31 #[rv la, iv lz, iv 0, iv 0] []))
      refine Go.st (fun _ => XS.iconst X0.here C.hx rfl (hb C.hby d5_31)) ?_
      show Go p e below s n0 _ _ _ (T0.setTop (mkF m 32 #[rv la, iv lz, iv 0, iv 0] [(.int 1)]))
      exact Go.retI C X0 d5_32 ⟨by simp [kthF, hc6_176, hc23_177], rfl⟩ (by decide) (by decide)
  · show Go p e below s n0 _ _ _ (T0.setTop (mkF m 9 #[rv la, iv lz, iv 0, iv 0] []))
    refine Go.st (fun _ => XS.iloadN X0.here C.hx rfl (hb C.hby d5_9) rfl) ?_
    show Go p e below s n0 _ _ _ (T0.setTop (mkF m 10 #[rv la, iv lz, iv 0, iv 0] [(.int 0)]))
    refine Go.st (fun _ => XS.iloadN X0.here C.hx rfl (hb C.hby d5_10) rfl) ?_
    show Go p e below s n0 _ _ _ (T0.setTop (mkF m 11 #[rv la, iv lz, iv 0, iv 0] [(.int 0), (.int 0)]))
    refine Go.icmp_ne C X0 (pc' := 16) d5_11 (by decide) (by decide) (fun hc => absurd hc (by decide)) (fun _ => ?_)
    show Go p e below s n0 _ _ _ (T0.setTop (mkF m 14 #[rv la, iv lz, iv 0, iv 0] []))
    refine Go.st (fun _ => XS.iconst X0.here C.hx rfl (hb C.hby d5_14)) ?_
    show Go p e below s n0 _ _ _ (T0.setTop (mkF m 15 #[rv la, iv lz, iv 0, iv 0] [(.int 0)]))
    exact Go.retI C X0 d5_15 ⟨by simp [kthF, hc6_176], rfl⟩ (by decide) (by decide)
set_option maxRecDepth 65536 in
set_option maxHeartbeats 40000000 in
theorem con_kth1 (l : Launch) (Z : State) (a0 : Array Value) (hw : ∀ d ∈ tables_1, d.before a0 Z = true) (n0 : Nat) (h0 : Heap) (Z0 : n0 ≤ h0.size) (la : Addr) (lz : Int32) (g0 g1 g2 g3 : Nat) (AL : AR Z h0 la .int [(.int g0.toInt32), (.int g1.toInt32), (.int g2.toInt32), (.int g3.toInt32)]) :
    Con l Z (⟨"com/example/layrd/layrd/layout/LayeredGraphItemOrderPinLaw", "kth", "([III)I"⟩ : MethodName) method_3_code 4 (some .int) [] ({ frames := 0, cells := 0, slots := 0, locals := 0 } : Room) n0 #[(.ref la), (.int lz), (.int 1)] h0 (fun v h => v = some (.int (kthF g0.toInt32 g1.toInt32 g2.toInt32 g3.toInt32 lz 1)) ∧ h = h0) := by
  refine Con.mk pf_5 hw Z0 ?_
  intro p e s m below meth c T0 C X0
  have ef : entryFrame m #[(.ref la), (.int lz), (.int 1)] 4 = mkF m 0 #[rv la, iv lz, iv 1, .unset] [] := by first | (simp [entryFrame, mkF, argsToLocals, Value.category]; done) | rfl
  rw [ef]
  show Go p e below s n0 _ _ _ (T0.setTop (mkF m 0 #[rv la, iv lz, iv 1, .unset] []))
  refine Go.st (fun _ => XS.iconst X0.here C.hx rfl (hb C.hby d5_0)) ?_
  show Go p e below s n0 _ _ _ (T0.setTop (mkF m 1 #[rv la, iv lz, iv 1, .unset] [(.int 0)]))
  refine Go.st (fun _ => XS.istoreN X0.here C.hx rfl (hb C.hby d5_1) rfl (l' := #[rv la, iv lz, iv 1, iv 0]) rfl) ?_
  show Go p e below s n0 _ _ _ (T0.setTop (mkF m 2 #[rv la, iv lz, iv 1, iv 0] []))
  refine Go.st (fun _ => XS.aloadN X0.here C.hx rfl (hb C.hby d5_2) rfl rfl) ?_
  show Go p e below s n0 _ _ _ (T0.setTop (mkF m 3 #[rv la, iv lz, iv 1, iv 0] [(.ref la)]))
  refine Go.st (fun _ => XS.iconst X0.here C.hx rfl (hb C.hby d5_3)) ?_
  show Go p e below s n0 _ _ _ (T0.setTop (mkF m 4 #[rv la, iv lz, iv 1, iv 0] [(.int 0), (.ref la)]))
  refine Go.iaload C X0 AL (by decide) rfl d5_4 ?_
  show Go p e below s n0 _ _ _ (T0.setTop (mkF m 5 #[rv la, iv lz, iv 1, iv 0] [(.int g0.toInt32)]))
  refine Go.st (fun _ => XS.iloadN X0.here C.hx rfl (hb C.hby d5_5) rfl) ?_
  show Go p e below s n0 _ _ _ (T0.setTop (mkF m 6 #[rv la, iv lz, iv 1, iv 0] [(.int lz), (.int g0.toInt32)]))
  refine Go.icmp_ne C X0 (pc' := 19) d5_6 (by decide) (by decide) (fun hc6_184 => ?_) (fun hc6_184 => ?_)
  · show Go p e below s n0 _ _ _ (T0.setTop (mkF m 19 #[rv la, iv lz, iv 1, iv 0] []))
    refine Go.st (fun _ => XS.aloadN X0.here C.hx rfl (hb C.hby d5_19) rfl rfl) ?_
    show Go p e below s n0 _ _ _ (T0.setTop (mkF m 20 #[rv la, iv lz, iv 1, iv 0] [(.ref la)]))
    refine Go.st (fun _ => XS.iconst X0.here C.hx rfl (hb C.hby d5_20)) ?_
    show Go p e below s n0 _ _ _ (T0.setTop (mkF m 21 #[rv la, iv lz, iv 1, iv 0] [(.int 1), (.ref la)]))
    refine Go.iaload C X0 AL (by decide) rfl d5_21 ?_
    show Go p e below s n0 _ _ _ (T0.setTop (mkF m 22 #[rv la, iv lz, iv 1, iv 0] [(.int g1.toInt32)]))
    refine Go.st (fun _ => XS.iloadN X0.here C.hx rfl (hb C.hby d5_22) rfl) ?_
    show Go p e below s n0 _ _ _ (T0.setTop (mkF m 23 #[rv la, iv lz, iv 1, iv 0] [(.int lz), (.int g1.toInt32)]))
    refine Go.icmp_ne C X0 (pc' := 36) d5_23 (by decide) (by decide) (fun hc23_185 => ?_) (fun hc23_185 => ?_)
    · show Go p e below s n0 _ _ _ (T0.setTop (mkF m 36 #[rv la, iv lz, iv 1, iv 0] []))
      refine Go.st (fun _ => XS.aloadN X0.here C.hx rfl (hb C.hby d5_36) rfl rfl) ?_
      show Go p e below s n0 _ _ _ (T0.setTop (mkF m 37 #[rv la, iv lz, iv 1, iv 0] [(.ref la)]))
      refine Go.st (fun _ => XS.iconst X0.here C.hx rfl (hb C.hby d5_37)) ?_
      show Go p e below s n0 _ _ _ (T0.setTop (mkF m 38 #[rv la, iv lz, iv 1, iv 0] [(.int 2), (.ref la)]))
      refine Go.iaload C X0 AL (by decide) rfl d5_38 ?_
      show Go p e below s n0 _ _ _ (T0.setTop (mkF m 39 #[rv la, iv lz, iv 1, iv 0] [(.int g2.toInt32)]))
      refine Go.st (fun _ => XS.iloadN X0.here C.hx rfl (hb C.hby d5_39) rfl) ?_
      show Go p e below s n0 _ _ _ (T0.setTop (mkF m 40 #[rv la, iv lz, iv 1, iv 0] [(.int lz), (.int g2.toInt32)]))
      refine Go.icmp_ne C X0 (pc' := 53) d5_40 (by decide) (by decide) (fun hc40_186 => ?_) (fun hc40_186 => ?_)
      · show Go p e below s n0 _ _ _ (T0.setTop (mkF m 53 #[rv la, iv lz, iv 1, iv 0] []))
        refine Go.st (fun _ => XS.aloadN X0.here C.hx rfl (hb C.hby d5_53) rfl rfl) ?_
        show Go p e below s n0 _ _ _ (T0.setTop (mkF m 54 #[rv la, iv lz, iv 1, iv 0] [(.ref la)]))
        refine Go.st (fun _ => XS.iconst X0.here C.hx rfl (hb C.hby d5_54)) ?_
        show Go p e below s n0 _ _ _ (T0.setTop (mkF m 55 #[rv la, iv lz, iv 1, iv 0] [(.int 3), (.ref la)]))
        refine Go.iaload C X0 AL (by decide) rfl d5_55 ?_
        show Go p e below s n0 _ _ _ (T0.setTop (mkF m 56 #[rv la, iv lz, iv 1, iv 0] [(.int g3.toInt32)]))
        refine Go.st (fun _ => XS.iloadN X0.here C.hx rfl (hb C.hby d5_56) rfl) ?_
        show Go p e below s n0 _ _ _ (T0.setTop (mkF m 57 #[rv la, iv lz, iv 1, iv 0] [(.int lz), (.int g3.toInt32)]))
        refine Go.icmp_ne C X0 (pc' := 70) d5_57 (by decide) (by decide) (fun hc57_187 => ?_) (fun hc57_187 => ?_)
        · show Go p e below s n0 _ _ _ (T0.setTop (mkF m 70 #[rv la, iv lz, iv 1, iv 0] []))
          refine Go.st (fun _ => XS.iconst X0.here C.hx rfl (hb C.hby d5_70)) ?_
          show Go p e below s n0 _ _ _ (T0.setTop (mkF m 71 #[rv la, iv lz, iv 1, iv 0] [(.int (-1))]))
          exact Go.retI C X0 d5_71 ⟨by simp [kthF, hc6_184, hc23_185, hc40_186, hc57_187], rfl⟩ (by decide) (by decide)
        · show Go p e below s n0 _ _ _ (T0.setTop (mkF m 60 #[rv la, iv lz, iv 1, iv 0] []))
          refine Go.st (fun _ => XS.iloadN X0.here C.hx rfl (hb C.hby d5_60) rfl) ?_
          show Go p e below s n0 _ _ _ (T0.setTop (mkF m 61 #[rv la, iv lz, iv 1, iv 0] [(.int 0)]))
          refine Go.st (fun _ => XS.iloadN X0.here C.hx rfl (hb C.hby d5_61) rfl) ?_
          show Go p e below s n0 _ _ _ (T0.setTop (mkF m 62 #[rv la, iv lz, iv 1, iv 0] [(.int 1), (.int 0)]))
          refine Go.icmp_ne C X0 (pc' := 67) d5_62 (by decide) (by decide) (fun _ => ?_) (fun hc => absurd hc (by decide))
          show Go p e below s n0 _ _ _ (T0.setTop (mkF m 67 #[rv la, iv lz, iv 1, iv 0] []))
          refine Go.st (fun _ => XS.iinc X0.here C.hx rfl (hb C.hby d5_67) rfl (l' := #[rv la, iv lz, iv 1, iv 1]) rfl) ?_
          show Go p e below s n0 _ _ _ (T0.setTop (mkF m 70 #[rv la, iv lz, iv 1, iv 1] []))
          refine Go.st (fun _ => XS.iconst X0.here C.hx rfl (hb C.hby d5_70)) ?_
          show Go p e below s n0 _ _ _ (T0.setTop (mkF m 71 #[rv la, iv lz, iv 1, iv 1] [(.int (-1))]))
          exact Go.retI C X0 d5_71 ⟨by simp [kthF, hc6_184, hc23_185, hc40_186, hc57_187], rfl⟩ (by decide) (by decide)
      · show Go p e below s n0 _ _ _ (T0.setTop (mkF m 43 #[rv la, iv lz, iv 1, iv 0] []))
        refine Go.st (fun _ => XS.iloadN X0.here C.hx rfl (hb C.hby d5_43) rfl) ?_
        show Go p e below s n0 _ _ _ (T0.setTop (mkF m 44 #[rv la, iv lz, iv 1, iv 0] [(.int 0)]))
        refine Go.st (fun _ => XS.iloadN X0.here C.hx rfl (hb C.hby d5_44) rfl) ?_
        show Go p e below s n0 _ _ _ (T0.setTop (mkF m 45 #[rv la, iv lz, iv 1, iv 0] [(.int 1), (.int 0)]))
        refine Go.icmp_ne C X0 (pc' := 50) d5_45 (by decide) (by decide) (fun _ => ?_) (fun hc => absurd hc (by decide))
        show Go p e below s n0 _ _ _ (T0.setTop (mkF m 50 #[rv la, iv lz, iv 1, iv 0] []))
        refine Go.st (fun _ => XS.iinc X0.here C.hx rfl (hb C.hby d5_50) rfl (l' := #[rv la, iv lz, iv 1, iv 1]) rfl) ?_
        show Go p e below s n0 _ _ _ (T0.setTop (mkF m 53 #[rv la, iv lz, iv 1, iv 1] []))
        refine Go.st (fun _ => XS.aloadN X0.here C.hx rfl (hb C.hby d5_53) rfl rfl) ?_
        show Go p e below s n0 _ _ _ (T0.setTop (mkF m 54 #[rv la, iv lz, iv 1, iv 1] [(.ref la)]))
        refine Go.st (fun _ => XS.iconst X0.here C.hx rfl (hb C.hby d5_54)) ?_
        show Go p e below s n0 _ _ _ (T0.setTop (mkF m 55 #[rv la, iv lz, iv 1, iv 1] [(.int 3), (.ref la)]))
        refine Go.iaload C X0 AL (by decide) rfl d5_55 ?_
        show Go p e below s n0 _ _ _ (T0.setTop (mkF m 56 #[rv la, iv lz, iv 1, iv 1] [(.int g3.toInt32)]))
        refine Go.st (fun _ => XS.iloadN X0.here C.hx rfl (hb C.hby d5_56) rfl) ?_
        show Go p e below s n0 _ _ _ (T0.setTop (mkF m 57 #[rv la, iv lz, iv 1, iv 1] [(.int lz), (.int g3.toInt32)]))
        refine Go.icmp_ne C X0 (pc' := 70) d5_57 (by decide) (by decide) (fun hc57_190 => ?_) (fun hc57_190 => ?_)
        · show Go p e below s n0 _ _ _ (T0.setTop (mkF m 70 #[rv la, iv lz, iv 1, iv 1] []))
          refine Go.st (fun _ => XS.iconst X0.here C.hx rfl (hb C.hby d5_70)) ?_
          show Go p e below s n0 _ _ _ (T0.setTop (mkF m 71 #[rv la, iv lz, iv 1, iv 1] [(.int (-1))]))
          exact Go.retI C X0 d5_71 ⟨by simp [kthF, hc6_184, hc23_185, hc40_186, hc57_190], rfl⟩ (by decide) (by decide)
        · show Go p e below s n0 _ _ _ (T0.setTop (mkF m 60 #[rv la, iv lz, iv 1, iv 1] []))
          refine Go.st (fun _ => XS.iloadN X0.here C.hx rfl (hb C.hby d5_60) rfl) ?_
          show Go p e below s n0 _ _ _ (T0.setTop (mkF m 61 #[rv la, iv lz, iv 1, iv 1] [(.int 1)]))
          refine Go.st (fun _ => XS.iloadN X0.here C.hx rfl (hb C.hby d5_61) rfl) ?_
          show Go p e below s n0 _ _ _ (T0.setTop (mkF m 62 #[rv la, iv lz, iv 1, iv 1] [(.int 1), (.int 1)]))
          refine Go.icmp_ne C X0 (pc' := 67) d5_62 (by decide) (by decide) (fun hc => absurd hc (by decide)) (fun _ => ?_)
          show Go p e below s n0 _ _ _ (T0.setTop (mkF m 65 #[rv la, iv lz, iv 1, iv 1] []))
          refine Go.st (fun _ => XS.iconst X0.here C.hx rfl (hb C.hby d5_65)) ?_
          show Go p e below s n0 _ _ _ (T0.setTop (mkF m 66 #[rv la, iv lz, iv 1, iv 1] [(.int 3)]))
          exact Go.retI C X0 d5_66 ⟨by simp [kthF, hc6_184, hc23_185, hc40_186, hc57_190], rfl⟩ (by decide) (by decide)
    · show Go p e below s n0 _ _ _ (T0.setTop (mkF m 26 #[rv la, iv lz, iv 1, iv 0] []))
      refine Go.st (fun _ => XS.iloadN X0.here C.hx rfl (hb C.hby d5_26) rfl) ?_
      show Go p e below s n0 _ _ _ (T0.setTop (mkF m 27 #[rv la, iv lz, iv 1, iv 0] [(.int 0)]))
      refine Go.st (fun _ => XS.iloadN X0.here C.hx rfl (hb C.hby d5_27) rfl) ?_
      show Go p e below s n0 _ _ _ (T0.setTop (mkF m 28 #[rv la, iv lz, iv 1, iv 0] [(.int 1), (.int 0)]))
      refine Go.icmp_ne C X0 (pc' := 33) d5_28 (by decide) (by decide) (fun _ => ?_) (fun hc => absurd hc (by decide))
      show Go p e below s n0 _ _ _ (T0.setTop (mkF m 33 #[rv la, iv lz, iv 1, iv 0] []))
      refine Go.st (fun _ => XS.iinc X0.here C.hx rfl (hb C.hby d5_33) rfl (l' := #[rv la, iv lz, iv 1, iv 1]) rfl) ?_
      show Go p e below s n0 _ _ _ (T0.setTop (mkF m 36 #[rv la, iv lz, iv 1, iv 1] []))
      refine Go.st (fun _ => XS.aloadN X0.here C.hx rfl (hb C.hby d5_36) rfl rfl) ?_
      show Go p e below s n0 _ _ _ (T0.setTop (mkF m 37 #[rv la, iv lz, iv 1, iv 1] [(.ref la)]))
      refine Go.st (fun _ => XS.iconst X0.here C.hx rfl (hb C.hby d5_37)) ?_
      show Go p e below s n0 _ _ _ (T0.setTop (mkF m 38 #[rv la, iv lz, iv 1, iv 1] [(.int 2), (.ref la)]))
      refine Go.iaload C X0 AL (by decide) rfl d5_38 ?_
      show Go p e below s n0 _ _ _ (T0.setTop (mkF m 39 #[rv la, iv lz, iv 1, iv 1] [(.int g2.toInt32)]))
      refine Go.st (fun _ => XS.iloadN X0.here C.hx rfl (hb C.hby d5_39) rfl) ?_
      show Go p e below s n0 _ _ _ (T0.setTop (mkF m 40 #[rv la, iv lz, iv 1, iv 1] [(.int lz), (.int g2.toInt32)]))
      refine Go.icmp_ne C X0 (pc' := 53) d5_40 (by decide) (by decide) (fun hc40_193 => ?_) (fun hc40_193 => ?_)
      · show Go p e below s n0 _ _ _ (T0.setTop (mkF m 53 #[rv la, iv lz, iv 1, iv 1] []))
        refine Go.st (fun _ => XS.aloadN X0.here C.hx rfl (hb C.hby d5_53) rfl rfl) ?_
        show Go p e below s n0 _ _ _ (T0.setTop (mkF m 54 #[rv la, iv lz, iv 1, iv 1] [(.ref la)]))
        refine Go.st (fun _ => XS.iconst X0.here C.hx rfl (hb C.hby d5_54)) ?_
        show Go p e below s n0 _ _ _ (T0.setTop (mkF m 55 #[rv la, iv lz, iv 1, iv 1] [(.int 3), (.ref la)]))
        refine Go.iaload C X0 AL (by decide) rfl d5_55 ?_
        show Go p e below s n0 _ _ _ (T0.setTop (mkF m 56 #[rv la, iv lz, iv 1, iv 1] [(.int g3.toInt32)]))
        refine Go.st (fun _ => XS.iloadN X0.here C.hx rfl (hb C.hby d5_56) rfl) ?_
        show Go p e below s n0 _ _ _ (T0.setTop (mkF m 57 #[rv la, iv lz, iv 1, iv 1] [(.int lz), (.int g3.toInt32)]))
        refine Go.icmp_ne C X0 (pc' := 70) d5_57 (by decide) (by decide) (fun hc57_194 => ?_) (fun hc57_194 => ?_)
        · show Go p e below s n0 _ _ _ (T0.setTop (mkF m 70 #[rv la, iv lz, iv 1, iv 1] []))
          refine Go.st (fun _ => XS.iconst X0.here C.hx rfl (hb C.hby d5_70)) ?_
          show Go p e below s n0 _ _ _ (T0.setTop (mkF m 71 #[rv la, iv lz, iv 1, iv 1] [(.int (-1))]))
          exact Go.retI C X0 d5_71 ⟨by simp [kthF, hc6_184, hc23_185, hc40_193, hc57_194], rfl⟩ (by decide) (by decide)
        · show Go p e below s n0 _ _ _ (T0.setTop (mkF m 60 #[rv la, iv lz, iv 1, iv 1] []))
          refine Go.st (fun _ => XS.iloadN X0.here C.hx rfl (hb C.hby d5_60) rfl) ?_
          show Go p e below s n0 _ _ _ (T0.setTop (mkF m 61 #[rv la, iv lz, iv 1, iv 1] [(.int 1)]))
          refine Go.st (fun _ => XS.iloadN X0.here C.hx rfl (hb C.hby d5_61) rfl) ?_
          show Go p e below s n0 _ _ _ (T0.setTop (mkF m 62 #[rv la, iv lz, iv 1, iv 1] [(.int 1), (.int 1)]))
          refine Go.icmp_ne C X0 (pc' := 67) d5_62 (by decide) (by decide) (fun hc => absurd hc (by decide)) (fun _ => ?_)
          show Go p e below s n0 _ _ _ (T0.setTop (mkF m 65 #[rv la, iv lz, iv 1, iv 1] []))
          refine Go.st (fun _ => XS.iconst X0.here C.hx rfl (hb C.hby d5_65)) ?_
          show Go p e below s n0 _ _ _ (T0.setTop (mkF m 66 #[rv la, iv lz, iv 1, iv 1] [(.int 3)]))
          exact Go.retI C X0 d5_66 ⟨by simp [kthF, hc6_184, hc23_185, hc40_193, hc57_194], rfl⟩ (by decide) (by decide)
      · show Go p e below s n0 _ _ _ (T0.setTop (mkF m 43 #[rv la, iv lz, iv 1, iv 1] []))
        refine Go.st (fun _ => XS.iloadN X0.here C.hx rfl (hb C.hby d5_43) rfl) ?_
        show Go p e below s n0 _ _ _ (T0.setTop (mkF m 44 #[rv la, iv lz, iv 1, iv 1] [(.int 1)]))
        refine Go.st (fun _ => XS.iloadN X0.here C.hx rfl (hb C.hby d5_44) rfl) ?_
        show Go p e below s n0 _ _ _ (T0.setTop (mkF m 45 #[rv la, iv lz, iv 1, iv 1] [(.int 1), (.int 1)]))
        refine Go.icmp_ne C X0 (pc' := 50) d5_45 (by decide) (by decide) (fun hc => absurd hc (by decide)) (fun _ => ?_)
        show Go p e below s n0 _ _ _ (T0.setTop (mkF m 48 #[rv la, iv lz, iv 1, iv 1] []))
        refine Go.st (fun _ => XS.iconst X0.here C.hx rfl (hb C.hby d5_48)) ?_
        show Go p e below s n0 _ _ _ (T0.setTop (mkF m 49 #[rv la, iv lz, iv 1, iv 1] [(.int 2)]))
        exact Go.retI C X0 d5_49 ⟨by simp [kthF, hc6_184, hc23_185, hc40_193], rfl⟩ (by decide) (by decide)
  · show Go p e below s n0 _ _ _ (T0.setTop (mkF m 9 #[rv la, iv lz, iv 1, iv 0] []))
    refine Go.st (fun _ => XS.iloadN X0.here C.hx rfl (hb C.hby d5_9) rfl) ?_
    show Go p e below s n0 _ _ _ (T0.setTop (mkF m 10 #[rv la, iv lz, iv 1, iv 0] [(.int 0)]))
    refine Go.st (fun _ => XS.iloadN X0.here C.hx rfl (hb C.hby d5_10) rfl) ?_
    show Go p e below s n0 _ _ _ (T0.setTop (mkF m 11 #[rv la, iv lz, iv 1, iv 0] [(.int 1), (.int 0)]))
    refine Go.icmp_ne C X0 (pc' := 16) d5_11 (by decide) (by decide) (fun _ => ?_) (fun hc => absurd hc (by decide))
    show Go p e below s n0 _ _ _ (T0.setTop (mkF m 16 #[rv la, iv lz, iv 1, iv 0] []))
    refine Go.st (fun _ => XS.iinc X0.here C.hx rfl (hb C.hby d5_16) rfl (l' := #[rv la, iv lz, iv 1, iv 1]) rfl) ?_
    show Go p e below s n0 _ _ _ (T0.setTop (mkF m 19 #[rv la, iv lz, iv 1, iv 1] []))
    refine Go.st (fun _ => XS.aloadN X0.here C.hx rfl (hb C.hby d5_19) rfl rfl) ?_
    show Go p e below s n0 _ _ _ (T0.setTop (mkF m 20 #[rv la, iv lz, iv 1, iv 1] [(.ref la)]))
    refine Go.st (fun _ => XS.iconst X0.here C.hx rfl (hb C.hby d5_20)) ?_
    show Go p e below s n0 _ _ _ (T0.setTop (mkF m 21 #[rv la, iv lz, iv 1, iv 1] [(.int 1), (.ref la)]))
    refine Go.iaload C X0 AL (by decide) rfl d5_21 ?_
    show Go p e below s n0 _ _ _ (T0.setTop (mkF m 22 #[rv la, iv lz, iv 1, iv 1] [(.int g1.toInt32)]))
    refine Go.st (fun _ => XS.iloadN X0.here C.hx rfl (hb C.hby d5_22) rfl) ?_
    show Go p e below s n0 _ _ _ (T0.setTop (mkF m 23 #[rv la, iv lz, iv 1, iv 1] [(.int lz), (.int g1.toInt32)]))
    refine Go.icmp_ne C X0 (pc' := 36) d5_23 (by decide) (by decide) (fun hc23_198 => ?_) (fun hc23_198 => ?_)
    · show Go p e below s n0 _ _ _ (T0.setTop (mkF m 36 #[rv la, iv lz, iv 1, iv 1] []))
      refine Go.st (fun _ => XS.aloadN X0.here C.hx rfl (hb C.hby d5_36) rfl rfl) ?_
      show Go p e below s n0 _ _ _ (T0.setTop (mkF m 37 #[rv la, iv lz, iv 1, iv 1] [(.ref la)]))
      refine Go.st (fun _ => XS.iconst X0.here C.hx rfl (hb C.hby d5_37)) ?_
      show Go p e below s n0 _ _ _ (T0.setTop (mkF m 38 #[rv la, iv lz, iv 1, iv 1] [(.int 2), (.ref la)]))
      refine Go.iaload C X0 AL (by decide) rfl d5_38 ?_
      show Go p e below s n0 _ _ _ (T0.setTop (mkF m 39 #[rv la, iv lz, iv 1, iv 1] [(.int g2.toInt32)]))
      refine Go.st (fun _ => XS.iloadN X0.here C.hx rfl (hb C.hby d5_39) rfl) ?_
      show Go p e below s n0 _ _ _ (T0.setTop (mkF m 40 #[rv la, iv lz, iv 1, iv 1] [(.int lz), (.int g2.toInt32)]))
      refine Go.icmp_ne C X0 (pc' := 53) d5_40 (by decide) (by decide) (fun hc40_199 => ?_) (fun hc40_199 => ?_)
      · show Go p e below s n0 _ _ _ (T0.setTop (mkF m 53 #[rv la, iv lz, iv 1, iv 1] []))
        refine Go.st (fun _ => XS.aloadN X0.here C.hx rfl (hb C.hby d5_53) rfl rfl) ?_
        show Go p e below s n0 _ _ _ (T0.setTop (mkF m 54 #[rv la, iv lz, iv 1, iv 1] [(.ref la)]))
        refine Go.st (fun _ => XS.iconst X0.here C.hx rfl (hb C.hby d5_54)) ?_
        show Go p e below s n0 _ _ _ (T0.setTop (mkF m 55 #[rv la, iv lz, iv 1, iv 1] [(.int 3), (.ref la)]))
        refine Go.iaload C X0 AL (by decide) rfl d5_55 ?_
        show Go p e below s n0 _ _ _ (T0.setTop (mkF m 56 #[rv la, iv lz, iv 1, iv 1] [(.int g3.toInt32)]))
        refine Go.st (fun _ => XS.iloadN X0.here C.hx rfl (hb C.hby d5_56) rfl) ?_
        show Go p e below s n0 _ _ _ (T0.setTop (mkF m 57 #[rv la, iv lz, iv 1, iv 1] [(.int lz), (.int g3.toInt32)]))
        refine Go.icmp_ne C X0 (pc' := 70) d5_57 (by decide) (by decide) (fun hc57_200 => ?_) (fun hc57_200 => ?_)
        · show Go p e below s n0 _ _ _ (T0.setTop (mkF m 70 #[rv la, iv lz, iv 1, iv 1] []))
          refine Go.st (fun _ => XS.iconst X0.here C.hx rfl (hb C.hby d5_70)) ?_
          show Go p e below s n0 _ _ _ (T0.setTop (mkF m 71 #[rv la, iv lz, iv 1, iv 1] [(.int (-1))]))
          exact Go.retI C X0 d5_71 ⟨by simp [kthF, hc6_184, hc23_198, hc40_199, hc57_200], rfl⟩ (by decide) (by decide)
        · show Go p e below s n0 _ _ _ (T0.setTop (mkF m 60 #[rv la, iv lz, iv 1, iv 1] []))
          refine Go.st (fun _ => XS.iloadN X0.here C.hx rfl (hb C.hby d5_60) rfl) ?_
          show Go p e below s n0 _ _ _ (T0.setTop (mkF m 61 #[rv la, iv lz, iv 1, iv 1] [(.int 1)]))
          refine Go.st (fun _ => XS.iloadN X0.here C.hx rfl (hb C.hby d5_61) rfl) ?_
          show Go p e below s n0 _ _ _ (T0.setTop (mkF m 62 #[rv la, iv lz, iv 1, iv 1] [(.int 1), (.int 1)]))
          refine Go.icmp_ne C X0 (pc' := 67) d5_62 (by decide) (by decide) (fun hc => absurd hc (by decide)) (fun _ => ?_)
          show Go p e below s n0 _ _ _ (T0.setTop (mkF m 65 #[rv la, iv lz, iv 1, iv 1] []))
          refine Go.st (fun _ => XS.iconst X0.here C.hx rfl (hb C.hby d5_65)) ?_
          show Go p e below s n0 _ _ _ (T0.setTop (mkF m 66 #[rv la, iv lz, iv 1, iv 1] [(.int 3)]))
          exact Go.retI C X0 d5_66 ⟨by simp [kthF, hc6_184, hc23_198, hc40_199, hc57_200], rfl⟩ (by decide) (by decide)
      · show Go p e below s n0 _ _ _ (T0.setTop (mkF m 43 #[rv la, iv lz, iv 1, iv 1] []))
        refine Go.st (fun _ => XS.iloadN X0.here C.hx rfl (hb C.hby d5_43) rfl) ?_
        show Go p e below s n0 _ _ _ (T0.setTop (mkF m 44 #[rv la, iv lz, iv 1, iv 1] [(.int 1)]))
        refine Go.st (fun _ => XS.iloadN X0.here C.hx rfl (hb C.hby d5_44) rfl) ?_
        show Go p e below s n0 _ _ _ (T0.setTop (mkF m 45 #[rv la, iv lz, iv 1, iv 1] [(.int 1), (.int 1)]))
        refine Go.icmp_ne C X0 (pc' := 50) d5_45 (by decide) (by decide) (fun hc => absurd hc (by decide)) (fun _ => ?_)
        show Go p e below s n0 _ _ _ (T0.setTop (mkF m 48 #[rv la, iv lz, iv 1, iv 1] []))
        refine Go.st (fun _ => XS.iconst X0.here C.hx rfl (hb C.hby d5_48)) ?_
        show Go p e below s n0 _ _ _ (T0.setTop (mkF m 49 #[rv la, iv lz, iv 1, iv 1] [(.int 2)]))
        exact Go.retI C X0 d5_49 ⟨by simp [kthF, hc6_184, hc23_198, hc40_199], rfl⟩ (by decide) (by decide)
    · show Go p e below s n0 _ _ _ (T0.setTop (mkF m 26 #[rv la, iv lz, iv 1, iv 1] []))
      refine Go.st (fun _ => XS.iloadN X0.here C.hx rfl (hb C.hby d5_26) rfl) ?_
      show Go p e below s n0 _ _ _ (T0.setTop (mkF m 27 #[rv la, iv lz, iv 1, iv 1] [(.int 1)]))
      refine Go.st (fun _ => XS.iloadN X0.here C.hx rfl (hb C.hby d5_27) rfl) ?_
      show Go p e below s n0 _ _ _ (T0.setTop (mkF m 28 #[rv la, iv lz, iv 1, iv 1] [(.int 1), (.int 1)]))
      refine Go.icmp_ne C X0 (pc' := 33) d5_28 (by decide) (by decide) (fun hc => absurd hc (by decide)) (fun _ => ?_)
      show Go p e below s n0 _ _ _ (T0.setTop (mkF m 31 #[rv la, iv lz, iv 1, iv 1] []))
      refine Go.st (fun _ => XS.iconst X0.here C.hx rfl (hb C.hby d5_31)) ?_
      show Go p e below s n0 _ _ _ (T0.setTop (mkF m 32 #[rv la, iv lz, iv 1, iv 1] [(.int 1)]))
      exact Go.retI C X0 d5_32 ⟨by simp [kthF, hc6_184, hc23_198], rfl⟩ (by decide) (by decide)
set_option maxRecDepth 65536 in
set_option maxHeartbeats 40000000 in
theorem con_kth2 (l : Launch) (Z : State) (a0 : Array Value) (hw : ∀ d ∈ tables_1, d.before a0 Z = true) (n0 : Nat) (h0 : Heap) (Z0 : n0 ≤ h0.size) (la : Addr) (lz : Int32) (g0 g1 g2 g3 : Nat) (AL : AR Z h0 la .int [(.int g0.toInt32), (.int g1.toInt32), (.int g2.toInt32), (.int g3.toInt32)]) :
    Con l Z (⟨"com/example/layrd/layrd/layout/LayeredGraphItemOrderPinLaw", "kth", "([III)I"⟩ : MethodName) method_3_code 4 (some .int) [] ({ frames := 0, cells := 0, slots := 0, locals := 0 } : Room) n0 #[(.ref la), (.int lz), (.int 2)] h0 (fun v h => v = some (.int (kthF g0.toInt32 g1.toInt32 g2.toInt32 g3.toInt32 lz 2)) ∧ h = h0) := by
  refine Con.mk pf_5 hw Z0 ?_
  intro p e s m below meth c T0 C X0
  have ef : entryFrame m #[(.ref la), (.int lz), (.int 2)] 4 = mkF m 0 #[rv la, iv lz, iv 2, .unset] [] := by first | (simp [entryFrame, mkF, argsToLocals, Value.category]; done) | rfl
  rw [ef]
  show Go p e below s n0 _ _ _ (T0.setTop (mkF m 0 #[rv la, iv lz, iv 2, .unset] []))
  refine Go.st (fun _ => XS.iconst X0.here C.hx rfl (hb C.hby d5_0)) ?_
  show Go p e below s n0 _ _ _ (T0.setTop (mkF m 1 #[rv la, iv lz, iv 2, .unset] [(.int 0)]))
  refine Go.st (fun _ => XS.istoreN X0.here C.hx rfl (hb C.hby d5_1) rfl (l' := #[rv la, iv lz, iv 2, iv 0]) rfl) ?_
  show Go p e below s n0 _ _ _ (T0.setTop (mkF m 2 #[rv la, iv lz, iv 2, iv 0] []))
  refine Go.st (fun _ => XS.aloadN X0.here C.hx rfl (hb C.hby d5_2) rfl rfl) ?_
  show Go p e below s n0 _ _ _ (T0.setTop (mkF m 3 #[rv la, iv lz, iv 2, iv 0] [(.ref la)]))
  refine Go.st (fun _ => XS.iconst X0.here C.hx rfl (hb C.hby d5_3)) ?_
  show Go p e below s n0 _ _ _ (T0.setTop (mkF m 4 #[rv la, iv lz, iv 2, iv 0] [(.int 0), (.ref la)]))
  refine Go.iaload C X0 AL (by decide) rfl d5_4 ?_
  show Go p e below s n0 _ _ _ (T0.setTop (mkF m 5 #[rv la, iv lz, iv 2, iv 0] [(.int g0.toInt32)]))
  refine Go.st (fun _ => XS.iloadN X0.here C.hx rfl (hb C.hby d5_5) rfl) ?_
  show Go p e below s n0 _ _ _ (T0.setTop (mkF m 6 #[rv la, iv lz, iv 2, iv 0] [(.int lz), (.int g0.toInt32)]))
  refine Go.icmp_ne C X0 (pc' := 19) d5_6 (by decide) (by decide) (fun hc6_204 => ?_) (fun hc6_204 => ?_)
  · show Go p e below s n0 _ _ _ (T0.setTop (mkF m 19 #[rv la, iv lz, iv 2, iv 0] []))
    refine Go.st (fun _ => XS.aloadN X0.here C.hx rfl (hb C.hby d5_19) rfl rfl) ?_
    show Go p e below s n0 _ _ _ (T0.setTop (mkF m 20 #[rv la, iv lz, iv 2, iv 0] [(.ref la)]))
    refine Go.st (fun _ => XS.iconst X0.here C.hx rfl (hb C.hby d5_20)) ?_
    show Go p e below s n0 _ _ _ (T0.setTop (mkF m 21 #[rv la, iv lz, iv 2, iv 0] [(.int 1), (.ref la)]))
    refine Go.iaload C X0 AL (by decide) rfl d5_21 ?_
    show Go p e below s n0 _ _ _ (T0.setTop (mkF m 22 #[rv la, iv lz, iv 2, iv 0] [(.int g1.toInt32)]))
    refine Go.st (fun _ => XS.iloadN X0.here C.hx rfl (hb C.hby d5_22) rfl) ?_
    show Go p e below s n0 _ _ _ (T0.setTop (mkF m 23 #[rv la, iv lz, iv 2, iv 0] [(.int lz), (.int g1.toInt32)]))
    refine Go.icmp_ne C X0 (pc' := 36) d5_23 (by decide) (by decide) (fun hc23_205 => ?_) (fun hc23_205 => ?_)
    · show Go p e below s n0 _ _ _ (T0.setTop (mkF m 36 #[rv la, iv lz, iv 2, iv 0] []))
      refine Go.st (fun _ => XS.aloadN X0.here C.hx rfl (hb C.hby d5_36) rfl rfl) ?_
      show Go p e below s n0 _ _ _ (T0.setTop (mkF m 37 #[rv la, iv lz, iv 2, iv 0] [(.ref la)]))
      refine Go.st (fun _ => XS.iconst X0.here C.hx rfl (hb C.hby d5_37)) ?_
      show Go p e below s n0 _ _ _ (T0.setTop (mkF m 38 #[rv la, iv lz, iv 2, iv 0] [(.int 2), (.ref la)]))
      refine Go.iaload C X0 AL (by decide) rfl d5_38 ?_
      show Go p e below s n0 _ _ _ (T0.setTop (mkF m 39 #[rv la, iv lz, iv 2, iv 0] [(.int g2.toInt32)]))
      refine Go.st (fun _ => XS.iloadN X0.here C.hx rfl (hb C.hby d5_39) rfl) ?_
      show Go p e below s n0 _ _ _ (T0.setTop (mkF m 40 #[rv la, iv lz, iv 2, iv 0] [(.int lz), (.int g2.toInt32)]))
      refine Go.icmp_ne C X0 (pc' := 53) d5_40 (by decide) (by decide) (fun hc40_206 => ?_) (fun hc40_206 => ?_)
      · show Go p e below s n0 _ _ _ (T0.setTop (mkF m 53 #[rv la, iv lz, iv 2, iv 0] []))
        refine Go.st (fun _ => XS.aloadN X0.here C.hx rfl (hb C.hby d5_53) rfl rfl) ?_
        show Go p e below s n0 _ _ _ (T0.setTop (mkF m 54 #[rv la, iv lz, iv 2, iv 0] [(.ref la)]))
        refine Go.st (fun _ => XS.iconst X0.here C.hx rfl (hb C.hby d5_54)) ?_
        show Go p e below s n0 _ _ _ (T0.setTop (mkF m 55 #[rv la, iv lz, iv 2, iv 0] [(.int 3), (.ref la)]))
        refine Go.iaload C X0 AL (by decide) rfl d5_55 ?_
        show Go p e below s n0 _ _ _ (T0.setTop (mkF m 56 #[rv la, iv lz, iv 2, iv 0] [(.int g3.toInt32)]))
        refine Go.st (fun _ => XS.iloadN X0.here C.hx rfl (hb C.hby d5_56) rfl) ?_
        show Go p e below s n0 _ _ _ (T0.setTop (mkF m 57 #[rv la, iv lz, iv 2, iv 0] [(.int lz), (.int g3.toInt32)]))
        refine Go.icmp_ne C X0 (pc' := 70) d5_57 (by decide) (by decide) (fun hc57_207 => ?_) (fun hc57_207 => ?_)
        · show Go p e below s n0 _ _ _ (T0.setTop (mkF m 70 #[rv la, iv lz, iv 2, iv 0] []))
          refine Go.st (fun _ => XS.iconst X0.here C.hx rfl (hb C.hby d5_70)) ?_
          show Go p e below s n0 _ _ _ (T0.setTop (mkF m 71 #[rv la, iv lz, iv 2, iv 0] [(.int (-1))]))
          exact Go.retI C X0 d5_71 ⟨by simp [kthF, hc6_204, hc23_205, hc40_206, hc57_207], rfl⟩ (by decide) (by decide)
        · show Go p e below s n0 _ _ _ (T0.setTop (mkF m 60 #[rv la, iv lz, iv 2, iv 0] []))
          refine Go.st (fun _ => XS.iloadN X0.here C.hx rfl (hb C.hby d5_60) rfl) ?_
          show Go p e below s n0 _ _ _ (T0.setTop (mkF m 61 #[rv la, iv lz, iv 2, iv 0] [(.int 0)]))
          refine Go.st (fun _ => XS.iloadN X0.here C.hx rfl (hb C.hby d5_61) rfl) ?_
          show Go p e below s n0 _ _ _ (T0.setTop (mkF m 62 #[rv la, iv lz, iv 2, iv 0] [(.int 2), (.int 0)]))
          refine Go.icmp_ne C X0 (pc' := 67) d5_62 (by decide) (by decide) (fun _ => ?_) (fun hc => absurd hc (by decide))
          show Go p e below s n0 _ _ _ (T0.setTop (mkF m 67 #[rv la, iv lz, iv 2, iv 0] []))
          refine Go.st (fun _ => XS.iinc X0.here C.hx rfl (hb C.hby d5_67) rfl (l' := #[rv la, iv lz, iv 2, iv 1]) rfl) ?_
          show Go p e below s n0 _ _ _ (T0.setTop (mkF m 70 #[rv la, iv lz, iv 2, iv 1] []))
          refine Go.st (fun _ => XS.iconst X0.here C.hx rfl (hb C.hby d5_70)) ?_
          show Go p e below s n0 _ _ _ (T0.setTop (mkF m 71 #[rv la, iv lz, iv 2, iv 1] [(.int (-1))]))
          exact Go.retI C X0 d5_71 ⟨by simp [kthF, hc6_204, hc23_205, hc40_206, hc57_207], rfl⟩ (by decide) (by decide)
      · show Go p e below s n0 _ _ _ (T0.setTop (mkF m 43 #[rv la, iv lz, iv 2, iv 0] []))
        refine Go.st (fun _ => XS.iloadN X0.here C.hx rfl (hb C.hby d5_43) rfl) ?_
        show Go p e below s n0 _ _ _ (T0.setTop (mkF m 44 #[rv la, iv lz, iv 2, iv 0] [(.int 0)]))
        refine Go.st (fun _ => XS.iloadN X0.here C.hx rfl (hb C.hby d5_44) rfl) ?_
        show Go p e below s n0 _ _ _ (T0.setTop (mkF m 45 #[rv la, iv lz, iv 2, iv 0] [(.int 2), (.int 0)]))
        refine Go.icmp_ne C X0 (pc' := 50) d5_45 (by decide) (by decide) (fun _ => ?_) (fun hc => absurd hc (by decide))
        show Go p e below s n0 _ _ _ (T0.setTop (mkF m 50 #[rv la, iv lz, iv 2, iv 0] []))
        refine Go.st (fun _ => XS.iinc X0.here C.hx rfl (hb C.hby d5_50) rfl (l' := #[rv la, iv lz, iv 2, iv 1]) rfl) ?_
        show Go p e below s n0 _ _ _ (T0.setTop (mkF m 53 #[rv la, iv lz, iv 2, iv 1] []))
        refine Go.st (fun _ => XS.aloadN X0.here C.hx rfl (hb C.hby d5_53) rfl rfl) ?_
        show Go p e below s n0 _ _ _ (T0.setTop (mkF m 54 #[rv la, iv lz, iv 2, iv 1] [(.ref la)]))
        refine Go.st (fun _ => XS.iconst X0.here C.hx rfl (hb C.hby d5_54)) ?_
        show Go p e below s n0 _ _ _ (T0.setTop (mkF m 55 #[rv la, iv lz, iv 2, iv 1] [(.int 3), (.ref la)]))
        refine Go.iaload C X0 AL (by decide) rfl d5_55 ?_
        show Go p e below s n0 _ _ _ (T0.setTop (mkF m 56 #[rv la, iv lz, iv 2, iv 1] [(.int g3.toInt32)]))
        refine Go.st (fun _ => XS.iloadN X0.here C.hx rfl (hb C.hby d5_56) rfl) ?_
        show Go p e below s n0 _ _ _ (T0.setTop (mkF m 57 #[rv la, iv lz, iv 2, iv 1] [(.int lz), (.int g3.toInt32)]))
        refine Go.icmp_ne C X0 (pc' := 70) d5_57 (by decide) (by decide) (fun hc57_210 => ?_) (fun hc57_210 => ?_)
        · show Go p e below s n0 _ _ _ (T0.setTop (mkF m 70 #[rv la, iv lz, iv 2, iv 1] []))
          refine Go.st (fun _ => XS.iconst X0.here C.hx rfl (hb C.hby d5_70)) ?_
          show Go p e below s n0 _ _ _ (T0.setTop (mkF m 71 #[rv la, iv lz, iv 2, iv 1] [(.int (-1))]))
          exact Go.retI C X0 d5_71 ⟨by simp [kthF, hc6_204, hc23_205, hc40_206, hc57_210], rfl⟩ (by decide) (by decide)
        · show Go p e below s n0 _ _ _ (T0.setTop (mkF m 60 #[rv la, iv lz, iv 2, iv 1] []))
          refine Go.st (fun _ => XS.iloadN X0.here C.hx rfl (hb C.hby d5_60) rfl) ?_
          show Go p e below s n0 _ _ _ (T0.setTop (mkF m 61 #[rv la, iv lz, iv 2, iv 1] [(.int 1)]))
          refine Go.st (fun _ => XS.iloadN X0.here C.hx rfl (hb C.hby d5_61) rfl) ?_
          show Go p e below s n0 _ _ _ (T0.setTop (mkF m 62 #[rv la, iv lz, iv 2, iv 1] [(.int 2), (.int 1)]))
          refine Go.icmp_ne C X0 (pc' := 67) d5_62 (by decide) (by decide) (fun _ => ?_) (fun hc => absurd hc (by decide))
          show Go p e below s n0 _ _ _ (T0.setTop (mkF m 67 #[rv la, iv lz, iv 2, iv 1] []))
          refine Go.st (fun _ => XS.iinc X0.here C.hx rfl (hb C.hby d5_67) rfl (l' := #[rv la, iv lz, iv 2, iv 2]) rfl) ?_
          show Go p e below s n0 _ _ _ (T0.setTop (mkF m 70 #[rv la, iv lz, iv 2, iv 2] []))
          refine Go.st (fun _ => XS.iconst X0.here C.hx rfl (hb C.hby d5_70)) ?_
          show Go p e below s n0 _ _ _ (T0.setTop (mkF m 71 #[rv la, iv lz, iv 2, iv 2] [(.int (-1))]))
          exact Go.retI C X0 d5_71 ⟨by simp [kthF, hc6_204, hc23_205, hc40_206, hc57_210], rfl⟩ (by decide) (by decide)
    · show Go p e below s n0 _ _ _ (T0.setTop (mkF m 26 #[rv la, iv lz, iv 2, iv 0] []))
      refine Go.st (fun _ => XS.iloadN X0.here C.hx rfl (hb C.hby d5_26) rfl) ?_
      show Go p e below s n0 _ _ _ (T0.setTop (mkF m 27 #[rv la, iv lz, iv 2, iv 0] [(.int 0)]))
      refine Go.st (fun _ => XS.iloadN X0.here C.hx rfl (hb C.hby d5_27) rfl) ?_
      show Go p e below s n0 _ _ _ (T0.setTop (mkF m 28 #[rv la, iv lz, iv 2, iv 0] [(.int 2), (.int 0)]))
      refine Go.icmp_ne C X0 (pc' := 33) d5_28 (by decide) (by decide) (fun _ => ?_) (fun hc => absurd hc (by decide))
      show Go p e below s n0 _ _ _ (T0.setTop (mkF m 33 #[rv la, iv lz, iv 2, iv 0] []))
      refine Go.st (fun _ => XS.iinc X0.here C.hx rfl (hb C.hby d5_33) rfl (l' := #[rv la, iv lz, iv 2, iv 1]) rfl) ?_
      show Go p e below s n0 _ _ _ (T0.setTop (mkF m 36 #[rv la, iv lz, iv 2, iv 1] []))
      refine Go.st (fun _ => XS.aloadN X0.here C.hx rfl (hb C.hby d5_36) rfl rfl) ?_
      show Go p e below s n0 _ _ _ (T0.setTop (mkF m 37 #[rv la, iv lz, iv 2, iv 1] [(.ref la)]))
      refine Go.st (fun _ => XS.iconst X0.here C.hx rfl (hb C.hby d5_37)) ?_
      show Go p e below s n0 _ _ _ (T0.setTop (mkF m 38 #[rv la, iv lz, iv 2, iv 1] [(.int 2), (.ref la)]))
      refine Go.iaload C X0 AL (by decide) rfl d5_38 ?_
      show Go p e below s n0 _ _ _ (T0.setTop (mkF m 39 #[rv la, iv lz, iv 2, iv 1] [(.int g2.toInt32)]))
      refine Go.st (fun _ => XS.iloadN X0.here C.hx rfl (hb C.hby d5_39) rfl) ?_
      show Go p e below s n0 _ _ _ (T0.setTop (mkF m 40 #[rv la, iv lz, iv 2, iv 1] [(.int lz), (.int g2.toInt32)]))
      refine Go.icmp_ne C X0 (pc' := 53) d5_40 (by decide) (by decide) (fun hc40_213 => ?_) (fun hc40_213 => ?_)
      · show Go p e below s n0 _ _ _ (T0.setTop (mkF m 53 #[rv la, iv lz, iv 2, iv 1] []))
        refine Go.st (fun _ => XS.aloadN X0.here C.hx rfl (hb C.hby d5_53) rfl rfl) ?_
        show Go p e below s n0 _ _ _ (T0.setTop (mkF m 54 #[rv la, iv lz, iv 2, iv 1] [(.ref la)]))
        refine Go.st (fun _ => XS.iconst X0.here C.hx rfl (hb C.hby d5_54)) ?_
        show Go p e below s n0 _ _ _ (T0.setTop (mkF m 55 #[rv la, iv lz, iv 2, iv 1] [(.int 3), (.ref la)]))
        refine Go.iaload C X0 AL (by decide) rfl d5_55 ?_
        show Go p e below s n0 _ _ _ (T0.setTop (mkF m 56 #[rv la, iv lz, iv 2, iv 1] [(.int g3.toInt32)]))
        refine Go.st (fun _ => XS.iloadN X0.here C.hx rfl (hb C.hby d5_56) rfl) ?_
        show Go p e below s n0 _ _ _ (T0.setTop (mkF m 57 #[rv la, iv lz, iv 2, iv 1] [(.int lz), (.int g3.toInt32)]))
        refine Go.icmp_ne C X0 (pc' := 70) d5_57 (by decide) (by decide) (fun hc57_214 => ?_) (fun hc57_214 => ?_)
        · show Go p e below s n0 _ _ _ (T0.setTop (mkF m 70 #[rv la, iv lz, iv 2, iv 1] []))
          refine Go.st (fun _ => XS.iconst X0.here C.hx rfl (hb C.hby d5_70)) ?_
          show Go p e below s n0 _ _ _ (T0.setTop (mkF m 71 #[rv la, iv lz, iv 2, iv 1] [(.int (-1))]))
          exact Go.retI C X0 d5_71 ⟨by simp [kthF, hc6_204, hc23_205, hc40_213, hc57_214], rfl⟩ (by decide) (by decide)
        · show Go p e below s n0 _ _ _ (T0.setTop (mkF m 60 #[rv la, iv lz, iv 2, iv 1] []))
          refine Go.st (fun _ => XS.iloadN X0.here C.hx rfl (hb C.hby d5_60) rfl) ?_
          show Go p e below s n0 _ _ _ (T0.setTop (mkF m 61 #[rv la, iv lz, iv 2, iv 1] [(.int 1)]))
          refine Go.st (fun _ => XS.iloadN X0.here C.hx rfl (hb C.hby d5_61) rfl) ?_
          show Go p e below s n0 _ _ _ (T0.setTop (mkF m 62 #[rv la, iv lz, iv 2, iv 1] [(.int 2), (.int 1)]))
          refine Go.icmp_ne C X0 (pc' := 67) d5_62 (by decide) (by decide) (fun _ => ?_) (fun hc => absurd hc (by decide))
          show Go p e below s n0 _ _ _ (T0.setTop (mkF m 67 #[rv la, iv lz, iv 2, iv 1] []))
          refine Go.st (fun _ => XS.iinc X0.here C.hx rfl (hb C.hby d5_67) rfl (l' := #[rv la, iv lz, iv 2, iv 2]) rfl) ?_
          show Go p e below s n0 _ _ _ (T0.setTop (mkF m 70 #[rv la, iv lz, iv 2, iv 2] []))
          refine Go.st (fun _ => XS.iconst X0.here C.hx rfl (hb C.hby d5_70)) ?_
          show Go p e below s n0 _ _ _ (T0.setTop (mkF m 71 #[rv la, iv lz, iv 2, iv 2] [(.int (-1))]))
          exact Go.retI C X0 d5_71 ⟨by simp [kthF, hc6_204, hc23_205, hc40_213, hc57_214], rfl⟩ (by decide) (by decide)
      · show Go p e below s n0 _ _ _ (T0.setTop (mkF m 43 #[rv la, iv lz, iv 2, iv 1] []))
        refine Go.st (fun _ => XS.iloadN X0.here C.hx rfl (hb C.hby d5_43) rfl) ?_
        show Go p e below s n0 _ _ _ (T0.setTop (mkF m 44 #[rv la, iv lz, iv 2, iv 1] [(.int 1)]))
        refine Go.st (fun _ => XS.iloadN X0.here C.hx rfl (hb C.hby d5_44) rfl) ?_
        show Go p e below s n0 _ _ _ (T0.setTop (mkF m 45 #[rv la, iv lz, iv 2, iv 1] [(.int 2), (.int 1)]))
        refine Go.icmp_ne C X0 (pc' := 50) d5_45 (by decide) (by decide) (fun _ => ?_) (fun hc => absurd hc (by decide))
        show Go p e below s n0 _ _ _ (T0.setTop (mkF m 50 #[rv la, iv lz, iv 2, iv 1] []))
        refine Go.st (fun _ => XS.iinc X0.here C.hx rfl (hb C.hby d5_50) rfl (l' := #[rv la, iv lz, iv 2, iv 2]) rfl) ?_
        show Go p e below s n0 _ _ _ (T0.setTop (mkF m 53 #[rv la, iv lz, iv 2, iv 2] []))
        refine Go.st (fun _ => XS.aloadN X0.here C.hx rfl (hb C.hby d5_53) rfl rfl) ?_
        show Go p e below s n0 _ _ _ (T0.setTop (mkF m 54 #[rv la, iv lz, iv 2, iv 2] [(.ref la)]))
        refine Go.st (fun _ => XS.iconst X0.here C.hx rfl (hb C.hby d5_54)) ?_
        show Go p e below s n0 _ _ _ (T0.setTop (mkF m 55 #[rv la, iv lz, iv 2, iv 2] [(.int 3), (.ref la)]))
        refine Go.iaload C X0 AL (by decide) rfl d5_55 ?_
        show Go p e below s n0 _ _ _ (T0.setTop (mkF m 56 #[rv la, iv lz, iv 2, iv 2] [(.int g3.toInt32)]))
        refine Go.st (fun _ => XS.iloadN X0.here C.hx rfl (hb C.hby d5_56) rfl) ?_
        show Go p e below s n0 _ _ _ (T0.setTop (mkF m 57 #[rv la, iv lz, iv 2, iv 2] [(.int lz), (.int g3.toInt32)]))
        refine Go.icmp_ne C X0 (pc' := 70) d5_57 (by decide) (by decide) (fun hc57_217 => ?_) (fun hc57_217 => ?_)
        · show Go p e below s n0 _ _ _ (T0.setTop (mkF m 70 #[rv la, iv lz, iv 2, iv 2] []))
          refine Go.st (fun _ => XS.iconst X0.here C.hx rfl (hb C.hby d5_70)) ?_
          show Go p e below s n0 _ _ _ (T0.setTop (mkF m 71 #[rv la, iv lz, iv 2, iv 2] [(.int (-1))]))
          exact Go.retI C X0 d5_71 ⟨by simp [kthF, hc6_204, hc23_205, hc40_213, hc57_217], rfl⟩ (by decide) (by decide)
        · show Go p e below s n0 _ _ _ (T0.setTop (mkF m 60 #[rv la, iv lz, iv 2, iv 2] []))
          refine Go.st (fun _ => XS.iloadN X0.here C.hx rfl (hb C.hby d5_60) rfl) ?_
          show Go p e below s n0 _ _ _ (T0.setTop (mkF m 61 #[rv la, iv lz, iv 2, iv 2] [(.int 2)]))
          refine Go.st (fun _ => XS.iloadN X0.here C.hx rfl (hb C.hby d5_61) rfl) ?_
          show Go p e below s n0 _ _ _ (T0.setTop (mkF m 62 #[rv la, iv lz, iv 2, iv 2] [(.int 2), (.int 2)]))
          refine Go.icmp_ne C X0 (pc' := 67) d5_62 (by decide) (by decide) (fun hc => absurd hc (by decide)) (fun _ => ?_)
          show Go p e below s n0 _ _ _ (T0.setTop (mkF m 65 #[rv la, iv lz, iv 2, iv 2] []))
          refine Go.st (fun _ => XS.iconst X0.here C.hx rfl (hb C.hby d5_65)) ?_
          show Go p e below s n0 _ _ _ (T0.setTop (mkF m 66 #[rv la, iv lz, iv 2, iv 2] [(.int 3)]))
          exact Go.retI C X0 d5_66 ⟨by simp [kthF, hc6_204, hc23_205, hc40_213, hc57_217], rfl⟩ (by decide) (by decide)
  · show Go p e below s n0 _ _ _ (T0.setTop (mkF m 9 #[rv la, iv lz, iv 2, iv 0] []))
    refine Go.st (fun _ => XS.iloadN X0.here C.hx rfl (hb C.hby d5_9) rfl) ?_
    show Go p e below s n0 _ _ _ (T0.setTop (mkF m 10 #[rv la, iv lz, iv 2, iv 0] [(.int 0)]))
    refine Go.st (fun _ => XS.iloadN X0.here C.hx rfl (hb C.hby d5_10) rfl) ?_
    show Go p e below s n0 _ _ _ (T0.setTop (mkF m 11 #[rv la, iv lz, iv 2, iv 0] [(.int 2), (.int 0)]))
    refine Go.icmp_ne C X0 (pc' := 16) d5_11 (by decide) (by decide) (fun _ => ?_) (fun hc => absurd hc (by decide))
    show Go p e below s n0 _ _ _ (T0.setTop (mkF m 16 #[rv la, iv lz, iv 2, iv 0] []))
    refine Go.st (fun _ => XS.iinc X0.here C.hx rfl (hb C.hby d5_16) rfl (l' := #[rv la, iv lz, iv 2, iv 1]) rfl) ?_
    show Go p e below s n0 _ _ _ (T0.setTop (mkF m 19 #[rv la, iv lz, iv 2, iv 1] []))
    refine Go.st (fun _ => XS.aloadN X0.here C.hx rfl (hb C.hby d5_19) rfl rfl) ?_
    show Go p e below s n0 _ _ _ (T0.setTop (mkF m 20 #[rv la, iv lz, iv 2, iv 1] [(.ref la)]))
    refine Go.st (fun _ => XS.iconst X0.here C.hx rfl (hb C.hby d5_20)) ?_
    show Go p e below s n0 _ _ _ (T0.setTop (mkF m 21 #[rv la, iv lz, iv 2, iv 1] [(.int 1), (.ref la)]))
    refine Go.iaload C X0 AL (by decide) rfl d5_21 ?_
    show Go p e below s n0 _ _ _ (T0.setTop (mkF m 22 #[rv la, iv lz, iv 2, iv 1] [(.int g1.toInt32)]))
    refine Go.st (fun _ => XS.iloadN X0.here C.hx rfl (hb C.hby d5_22) rfl) ?_
    show Go p e below s n0 _ _ _ (T0.setTop (mkF m 23 #[rv la, iv lz, iv 2, iv 1] [(.int lz), (.int g1.toInt32)]))
    refine Go.icmp_ne C X0 (pc' := 36) d5_23 (by decide) (by decide) (fun hc23_220 => ?_) (fun hc23_220 => ?_)
    · show Go p e below s n0 _ _ _ (T0.setTop (mkF m 36 #[rv la, iv lz, iv 2, iv 1] []))
      refine Go.st (fun _ => XS.aloadN X0.here C.hx rfl (hb C.hby d5_36) rfl rfl) ?_
      show Go p e below s n0 _ _ _ (T0.setTop (mkF m 37 #[rv la, iv lz, iv 2, iv 1] [(.ref la)]))
      refine Go.st (fun _ => XS.iconst X0.here C.hx rfl (hb C.hby d5_37)) ?_
      show Go p e below s n0 _ _ _ (T0.setTop (mkF m 38 #[rv la, iv lz, iv 2, iv 1] [(.int 2), (.ref la)]))
      refine Go.iaload C X0 AL (by decide) rfl d5_38 ?_
      show Go p e below s n0 _ _ _ (T0.setTop (mkF m 39 #[rv la, iv lz, iv 2, iv 1] [(.int g2.toInt32)]))
      refine Go.st (fun _ => XS.iloadN X0.here C.hx rfl (hb C.hby d5_39) rfl) ?_
      show Go p e below s n0 _ _ _ (T0.setTop (mkF m 40 #[rv la, iv lz, iv 2, iv 1] [(.int lz), (.int g2.toInt32)]))
      refine Go.icmp_ne C X0 (pc' := 53) d5_40 (by decide) (by decide) (fun hc40_221 => ?_) (fun hc40_221 => ?_)
      · show Go p e below s n0 _ _ _ (T0.setTop (mkF m 53 #[rv la, iv lz, iv 2, iv 1] []))
        refine Go.st (fun _ => XS.aloadN X0.here C.hx rfl (hb C.hby d5_53) rfl rfl) ?_
        show Go p e below s n0 _ _ _ (T0.setTop (mkF m 54 #[rv la, iv lz, iv 2, iv 1] [(.ref la)]))
        refine Go.st (fun _ => XS.iconst X0.here C.hx rfl (hb C.hby d5_54)) ?_
        show Go p e below s n0 _ _ _ (T0.setTop (mkF m 55 #[rv la, iv lz, iv 2, iv 1] [(.int 3), (.ref la)]))
        refine Go.iaload C X0 AL (by decide) rfl d5_55 ?_
        show Go p e below s n0 _ _ _ (T0.setTop (mkF m 56 #[rv la, iv lz, iv 2, iv 1] [(.int g3.toInt32)]))
        refine Go.st (fun _ => XS.iloadN X0.here C.hx rfl (hb C.hby d5_56) rfl) ?_
        show Go p e below s n0 _ _ _ (T0.setTop (mkF m 57 #[rv la, iv lz, iv 2, iv 1] [(.int lz), (.int g3.toInt32)]))
        refine Go.icmp_ne C X0 (pc' := 70) d5_57 (by decide) (by decide) (fun hc57_222 => ?_) (fun hc57_222 => ?_)
        · show Go p e below s n0 _ _ _ (T0.setTop (mkF m 70 #[rv la, iv lz, iv 2, iv 1] []))
          refine Go.st (fun _ => XS.iconst X0.here C.hx rfl (hb C.hby d5_70)) ?_
          show Go p e below s n0 _ _ _ (T0.setTop (mkF m 71 #[rv la, iv lz, iv 2, iv 1] [(.int (-1))]))
          exact Go.retI C X0 d5_71 ⟨by simp [kthF, hc6_204, hc23_220, hc40_221, hc57_222], rfl⟩ (by decide) (by decide)
        · show Go p e below s n0 _ _ _ (T0.setTop (mkF m 60 #[rv la, iv lz, iv 2, iv 1] []))
          refine Go.st (fun _ => XS.iloadN X0.here C.hx rfl (hb C.hby d5_60) rfl) ?_
          show Go p e below s n0 _ _ _ (T0.setTop (mkF m 61 #[rv la, iv lz, iv 2, iv 1] [(.int 1)]))
          refine Go.st (fun _ => XS.iloadN X0.here C.hx rfl (hb C.hby d5_61) rfl) ?_
          show Go p e below s n0 _ _ _ (T0.setTop (mkF m 62 #[rv la, iv lz, iv 2, iv 1] [(.int 2), (.int 1)]))
          refine Go.icmp_ne C X0 (pc' := 67) d5_62 (by decide) (by decide) (fun _ => ?_) (fun hc => absurd hc (by decide))
          show Go p e below s n0 _ _ _ (T0.setTop (mkF m 67 #[rv la, iv lz, iv 2, iv 1] []))
          refine Go.st (fun _ => XS.iinc X0.here C.hx rfl (hb C.hby d5_67) rfl (l' := #[rv la, iv lz, iv 2, iv 2]) rfl) ?_
          show Go p e below s n0 _ _ _ (T0.setTop (mkF m 70 #[rv la, iv lz, iv 2, iv 2] []))
          refine Go.st (fun _ => XS.iconst X0.here C.hx rfl (hb C.hby d5_70)) ?_
          show Go p e below s n0 _ _ _ (T0.setTop (mkF m 71 #[rv la, iv lz, iv 2, iv 2] [(.int (-1))]))
          exact Go.retI C X0 d5_71 ⟨by simp [kthF, hc6_204, hc23_220, hc40_221, hc57_222], rfl⟩ (by decide) (by decide)
      · show Go p e below s n0 _ _ _ (T0.setTop (mkF m 43 #[rv la, iv lz, iv 2, iv 1] []))
        refine Go.st (fun _ => XS.iloadN X0.here C.hx rfl (hb C.hby d5_43) rfl) ?_
        show Go p e below s n0 _ _ _ (T0.setTop (mkF m 44 #[rv la, iv lz, iv 2, iv 1] [(.int 1)]))
        refine Go.st (fun _ => XS.iloadN X0.here C.hx rfl (hb C.hby d5_44) rfl) ?_
        show Go p e below s n0 _ _ _ (T0.setTop (mkF m 45 #[rv la, iv lz, iv 2, iv 1] [(.int 2), (.int 1)]))
        refine Go.icmp_ne C X0 (pc' := 50) d5_45 (by decide) (by decide) (fun _ => ?_) (fun hc => absurd hc (by decide))
        show Go p e below s n0 _ _ _ (T0.setTop (mkF m 50 #[rv la, iv lz, iv 2, iv 1] []))
        refine Go.st (fun _ => XS.iinc X0.here C.hx rfl (hb C.hby d5_50) rfl (l' := #[rv la, iv lz, iv 2, iv 2]) rfl) ?_
        show Go p e below s n0 _ _ _ (T0.setTop (mkF m 53 #[rv la, iv lz, iv 2, iv 2] []))
        refine Go.st (fun _ => XS.aloadN X0.here C.hx rfl (hb C.hby d5_53) rfl rfl) ?_
        show Go p e below s n0 _ _ _ (T0.setTop (mkF m 54 #[rv la, iv lz, iv 2, iv 2] [(.ref la)]))
        refine Go.st (fun _ => XS.iconst X0.here C.hx rfl (hb C.hby d5_54)) ?_
        show Go p e below s n0 _ _ _ (T0.setTop (mkF m 55 #[rv la, iv lz, iv 2, iv 2] [(.int 3), (.ref la)]))
        refine Go.iaload C X0 AL (by decide) rfl d5_55 ?_
        show Go p e below s n0 _ _ _ (T0.setTop (mkF m 56 #[rv la, iv lz, iv 2, iv 2] [(.int g3.toInt32)]))
        refine Go.st (fun _ => XS.iloadN X0.here C.hx rfl (hb C.hby d5_56) rfl) ?_
        show Go p e below s n0 _ _ _ (T0.setTop (mkF m 57 #[rv la, iv lz, iv 2, iv 2] [(.int lz), (.int g3.toInt32)]))
        refine Go.icmp_ne C X0 (pc' := 70) d5_57 (by decide) (by decide) (fun hc57_225 => ?_) (fun hc57_225 => ?_)
        · show Go p e below s n0 _ _ _ (T0.setTop (mkF m 70 #[rv la, iv lz, iv 2, iv 2] []))
          refine Go.st (fun _ => XS.iconst X0.here C.hx rfl (hb C.hby d5_70)) ?_
          show Go p e below s n0 _ _ _ (T0.setTop (mkF m 71 #[rv la, iv lz, iv 2, iv 2] [(.int (-1))]))
          exact Go.retI C X0 d5_71 ⟨by simp [kthF, hc6_204, hc23_220, hc40_221, hc57_225], rfl⟩ (by decide) (by decide)
        · show Go p e below s n0 _ _ _ (T0.setTop (mkF m 60 #[rv la, iv lz, iv 2, iv 2] []))
          refine Go.st (fun _ => XS.iloadN X0.here C.hx rfl (hb C.hby d5_60) rfl) ?_
          show Go p e below s n0 _ _ _ (T0.setTop (mkF m 61 #[rv la, iv lz, iv 2, iv 2] [(.int 2)]))
          refine Go.st (fun _ => XS.iloadN X0.here C.hx rfl (hb C.hby d5_61) rfl) ?_
          show Go p e below s n0 _ _ _ (T0.setTop (mkF m 62 #[rv la, iv lz, iv 2, iv 2] [(.int 2), (.int 2)]))
          refine Go.icmp_ne C X0 (pc' := 67) d5_62 (by decide) (by decide) (fun hc => absurd hc (by decide)) (fun _ => ?_)
          show Go p e below s n0 _ _ _ (T0.setTop (mkF m 65 #[rv la, iv lz, iv 2, iv 2] []))
          refine Go.st (fun _ => XS.iconst X0.here C.hx rfl (hb C.hby d5_65)) ?_
          show Go p e below s n0 _ _ _ (T0.setTop (mkF m 66 #[rv la, iv lz, iv 2, iv 2] [(.int 3)]))
          exact Go.retI C X0 d5_66 ⟨by simp [kthF, hc6_204, hc23_220, hc40_221, hc57_225], rfl⟩ (by decide) (by decide)
    · show Go p e below s n0 _ _ _ (T0.setTop (mkF m 26 #[rv la, iv lz, iv 2, iv 1] []))
      refine Go.st (fun _ => XS.iloadN X0.here C.hx rfl (hb C.hby d5_26) rfl) ?_
      show Go p e below s n0 _ _ _ (T0.setTop (mkF m 27 #[rv la, iv lz, iv 2, iv 1] [(.int 1)]))
      refine Go.st (fun _ => XS.iloadN X0.here C.hx rfl (hb C.hby d5_27) rfl) ?_
      show Go p e below s n0 _ _ _ (T0.setTop (mkF m 28 #[rv la, iv lz, iv 2, iv 1] [(.int 2), (.int 1)]))
      refine Go.icmp_ne C X0 (pc' := 33) d5_28 (by decide) (by decide) (fun _ => ?_) (fun hc => absurd hc (by decide))
      show Go p e below s n0 _ _ _ (T0.setTop (mkF m 33 #[rv la, iv lz, iv 2, iv 1] []))
      refine Go.st (fun _ => XS.iinc X0.here C.hx rfl (hb C.hby d5_33) rfl (l' := #[rv la, iv lz, iv 2, iv 2]) rfl) ?_
      show Go p e below s n0 _ _ _ (T0.setTop (mkF m 36 #[rv la, iv lz, iv 2, iv 2] []))
      refine Go.st (fun _ => XS.aloadN X0.here C.hx rfl (hb C.hby d5_36) rfl rfl) ?_
      show Go p e below s n0 _ _ _ (T0.setTop (mkF m 37 #[rv la, iv lz, iv 2, iv 2] [(.ref la)]))
      refine Go.st (fun _ => XS.iconst X0.here C.hx rfl (hb C.hby d5_37)) ?_
      show Go p e below s n0 _ _ _ (T0.setTop (mkF m 38 #[rv la, iv lz, iv 2, iv 2] [(.int 2), (.ref la)]))
      refine Go.iaload C X0 AL (by decide) rfl d5_38 ?_
      show Go p e below s n0 _ _ _ (T0.setTop (mkF m 39 #[rv la, iv lz, iv 2, iv 2] [(.int g2.toInt32)]))
      refine Go.st (fun _ => XS.iloadN X0.here C.hx rfl (hb C.hby d5_39) rfl) ?_
      show Go p e below s n0 _ _ _ (T0.setTop (mkF m 40 #[rv la, iv lz, iv 2, iv 2] [(.int lz), (.int g2.toInt32)]))
      refine Go.icmp_ne C X0 (pc' := 53) d5_40 (by decide) (by decide) (fun hc40_228 => ?_) (fun hc40_228 => ?_)
      · show Go p e below s n0 _ _ _ (T0.setTop (mkF m 53 #[rv la, iv lz, iv 2, iv 2] []))
        refine Go.st (fun _ => XS.aloadN X0.here C.hx rfl (hb C.hby d5_53) rfl rfl) ?_
        show Go p e below s n0 _ _ _ (T0.setTop (mkF m 54 #[rv la, iv lz, iv 2, iv 2] [(.ref la)]))
        refine Go.st (fun _ => XS.iconst X0.here C.hx rfl (hb C.hby d5_54)) ?_
        show Go p e below s n0 _ _ _ (T0.setTop (mkF m 55 #[rv la, iv lz, iv 2, iv 2] [(.int 3), (.ref la)]))
        refine Go.iaload C X0 AL (by decide) rfl d5_55 ?_
        show Go p e below s n0 _ _ _ (T0.setTop (mkF m 56 #[rv la, iv lz, iv 2, iv 2] [(.int g3.toInt32)]))
        refine Go.st (fun _ => XS.iloadN X0.here C.hx rfl (hb C.hby d5_56) rfl) ?_
        show Go p e below s n0 _ _ _ (T0.setTop (mkF m 57 #[rv la, iv lz, iv 2, iv 2] [(.int lz), (.int g3.toInt32)]))
        refine Go.icmp_ne C X0 (pc' := 70) d5_57 (by decide) (by decide) (fun hc57_229 => ?_) (fun hc57_229 => ?_)
        · show Go p e below s n0 _ _ _ (T0.setTop (mkF m 70 #[rv la, iv lz, iv 2, iv 2] []))
          refine Go.st (fun _ => XS.iconst X0.here C.hx rfl (hb C.hby d5_70)) ?_
          show Go p e below s n0 _ _ _ (T0.setTop (mkF m 71 #[rv la, iv lz, iv 2, iv 2] [(.int (-1))]))
          exact Go.retI C X0 d5_71 ⟨by simp [kthF, hc6_204, hc23_220, hc40_228, hc57_229], rfl⟩ (by decide) (by decide)
        · show Go p e below s n0 _ _ _ (T0.setTop (mkF m 60 #[rv la, iv lz, iv 2, iv 2] []))
          refine Go.st (fun _ => XS.iloadN X0.here C.hx rfl (hb C.hby d5_60) rfl) ?_
          show Go p e below s n0 _ _ _ (T0.setTop (mkF m 61 #[rv la, iv lz, iv 2, iv 2] [(.int 2)]))
          refine Go.st (fun _ => XS.iloadN X0.here C.hx rfl (hb C.hby d5_61) rfl) ?_
          show Go p e below s n0 _ _ _ (T0.setTop (mkF m 62 #[rv la, iv lz, iv 2, iv 2] [(.int 2), (.int 2)]))
          refine Go.icmp_ne C X0 (pc' := 67) d5_62 (by decide) (by decide) (fun hc => absurd hc (by decide)) (fun _ => ?_)
          show Go p e below s n0 _ _ _ (T0.setTop (mkF m 65 #[rv la, iv lz, iv 2, iv 2] []))
          refine Go.st (fun _ => XS.iconst X0.here C.hx rfl (hb C.hby d5_65)) ?_
          show Go p e below s n0 _ _ _ (T0.setTop (mkF m 66 #[rv la, iv lz, iv 2, iv 2] [(.int 3)]))
          exact Go.retI C X0 d5_66 ⟨by simp [kthF, hc6_204, hc23_220, hc40_228, hc57_229], rfl⟩ (by decide) (by decide)
      · show Go p e below s n0 _ _ _ (T0.setTop (mkF m 43 #[rv la, iv lz, iv 2, iv 2] []))
        refine Go.st (fun _ => XS.iloadN X0.here C.hx rfl (hb C.hby d5_43) rfl) ?_
        show Go p e below s n0 _ _ _ (T0.setTop (mkF m 44 #[rv la, iv lz, iv 2, iv 2] [(.int 2)]))
        refine Go.st (fun _ => XS.iloadN X0.here C.hx rfl (hb C.hby d5_44) rfl) ?_
        show Go p e below s n0 _ _ _ (T0.setTop (mkF m 45 #[rv la, iv lz, iv 2, iv 2] [(.int 2), (.int 2)]))
        refine Go.icmp_ne C X0 (pc' := 50) d5_45 (by decide) (by decide) (fun hc => absurd hc (by decide)) (fun _ => ?_)
        show Go p e below s n0 _ _ _ (T0.setTop (mkF m 48 #[rv la, iv lz, iv 2, iv 2] []))
        refine Go.st (fun _ => XS.iconst X0.here C.hx rfl (hb C.hby d5_48)) ?_
        show Go p e below s n0 _ _ _ (T0.setTop (mkF m 49 #[rv la, iv lz, iv 2, iv 2] [(.int 2)]))
        exact Go.retI C X0 d5_49 ⟨by simp [kthF, hc6_204, hc23_220, hc40_228], rfl⟩ (by decide) (by decide)
set_option maxRecDepth 65536 in
set_option maxHeartbeats 40000000 in
theorem con_kth3 (l : Launch) (Z : State) (a0 : Array Value) (hw : ∀ d ∈ tables_1, d.before a0 Z = true) (n0 : Nat) (h0 : Heap) (Z0 : n0 ≤ h0.size) (la : Addr) (lz : Int32) (g0 g1 g2 g3 : Nat) (AL : AR Z h0 la .int [(.int g0.toInt32), (.int g1.toInt32), (.int g2.toInt32), (.int g3.toInt32)]) :
    Con l Z (⟨"com/example/layrd/layrd/layout/LayeredGraphItemOrderPinLaw", "kth", "([III)I"⟩ : MethodName) method_3_code 4 (some .int) [] ({ frames := 0, cells := 0, slots := 0, locals := 0 } : Room) n0 #[(.ref la), (.int lz), (.int 3)] h0 (fun v h => v = some (.int (kthF g0.toInt32 g1.toInt32 g2.toInt32 g3.toInt32 lz 3)) ∧ h = h0) := by
  refine Con.mk pf_5 hw Z0 ?_
  intro p e s m below meth c T0 C X0
  have ef : entryFrame m #[(.ref la), (.int lz), (.int 3)] 4 = mkF m 0 #[rv la, iv lz, iv 3, .unset] [] := by first | (simp [entryFrame, mkF, argsToLocals, Value.category]; done) | rfl
  rw [ef]
  show Go p e below s n0 _ _ _ (T0.setTop (mkF m 0 #[rv la, iv lz, iv 3, .unset] []))
  refine Go.st (fun _ => XS.iconst X0.here C.hx rfl (hb C.hby d5_0)) ?_
  show Go p e below s n0 _ _ _ (T0.setTop (mkF m 1 #[rv la, iv lz, iv 3, .unset] [(.int 0)]))
  refine Go.st (fun _ => XS.istoreN X0.here C.hx rfl (hb C.hby d5_1) rfl (l' := #[rv la, iv lz, iv 3, iv 0]) rfl) ?_
  show Go p e below s n0 _ _ _ (T0.setTop (mkF m 2 #[rv la, iv lz, iv 3, iv 0] []))
  refine Go.st (fun _ => XS.aloadN X0.here C.hx rfl (hb C.hby d5_2) rfl rfl) ?_
  show Go p e below s n0 _ _ _ (T0.setTop (mkF m 3 #[rv la, iv lz, iv 3, iv 0] [(.ref la)]))
  refine Go.st (fun _ => XS.iconst X0.here C.hx rfl (hb C.hby d5_3)) ?_
  show Go p e below s n0 _ _ _ (T0.setTop (mkF m 4 #[rv la, iv lz, iv 3, iv 0] [(.int 0), (.ref la)]))
  refine Go.iaload C X0 AL (by decide) rfl d5_4 ?_
  show Go p e below s n0 _ _ _ (T0.setTop (mkF m 5 #[rv la, iv lz, iv 3, iv 0] [(.int g0.toInt32)]))
  refine Go.st (fun _ => XS.iloadN X0.here C.hx rfl (hb C.hby d5_5) rfl) ?_
  show Go p e below s n0 _ _ _ (T0.setTop (mkF m 6 #[rv la, iv lz, iv 3, iv 0] [(.int lz), (.int g0.toInt32)]))
  refine Go.icmp_ne C X0 (pc' := 19) d5_6 (by decide) (by decide) (fun hc6_232 => ?_) (fun hc6_232 => ?_)
  · show Go p e below s n0 _ _ _ (T0.setTop (mkF m 19 #[rv la, iv lz, iv 3, iv 0] []))
    refine Go.st (fun _ => XS.aloadN X0.here C.hx rfl (hb C.hby d5_19) rfl rfl) ?_
    show Go p e below s n0 _ _ _ (T0.setTop (mkF m 20 #[rv la, iv lz, iv 3, iv 0] [(.ref la)]))
    refine Go.st (fun _ => XS.iconst X0.here C.hx rfl (hb C.hby d5_20)) ?_
    show Go p e below s n0 _ _ _ (T0.setTop (mkF m 21 #[rv la, iv lz, iv 3, iv 0] [(.int 1), (.ref la)]))
    refine Go.iaload C X0 AL (by decide) rfl d5_21 ?_
    show Go p e below s n0 _ _ _ (T0.setTop (mkF m 22 #[rv la, iv lz, iv 3, iv 0] [(.int g1.toInt32)]))
    refine Go.st (fun _ => XS.iloadN X0.here C.hx rfl (hb C.hby d5_22) rfl) ?_
    show Go p e below s n0 _ _ _ (T0.setTop (mkF m 23 #[rv la, iv lz, iv 3, iv 0] [(.int lz), (.int g1.toInt32)]))
    refine Go.icmp_ne C X0 (pc' := 36) d5_23 (by decide) (by decide) (fun hc23_233 => ?_) (fun hc23_233 => ?_)
    · show Go p e below s n0 _ _ _ (T0.setTop (mkF m 36 #[rv la, iv lz, iv 3, iv 0] []))
      refine Go.st (fun _ => XS.aloadN X0.here C.hx rfl (hb C.hby d5_36) rfl rfl) ?_
      show Go p e below s n0 _ _ _ (T0.setTop (mkF m 37 #[rv la, iv lz, iv 3, iv 0] [(.ref la)]))
      refine Go.st (fun _ => XS.iconst X0.here C.hx rfl (hb C.hby d5_37)) ?_
      show Go p e below s n0 _ _ _ (T0.setTop (mkF m 38 #[rv la, iv lz, iv 3, iv 0] [(.int 2), (.ref la)]))
      refine Go.iaload C X0 AL (by decide) rfl d5_38 ?_
      show Go p e below s n0 _ _ _ (T0.setTop (mkF m 39 #[rv la, iv lz, iv 3, iv 0] [(.int g2.toInt32)]))
      refine Go.st (fun _ => XS.iloadN X0.here C.hx rfl (hb C.hby d5_39) rfl) ?_
      show Go p e below s n0 _ _ _ (T0.setTop (mkF m 40 #[rv la, iv lz, iv 3, iv 0] [(.int lz), (.int g2.toInt32)]))
      refine Go.icmp_ne C X0 (pc' := 53) d5_40 (by decide) (by decide) (fun hc40_234 => ?_) (fun hc40_234 => ?_)
      · show Go p e below s n0 _ _ _ (T0.setTop (mkF m 53 #[rv la, iv lz, iv 3, iv 0] []))
        refine Go.st (fun _ => XS.aloadN X0.here C.hx rfl (hb C.hby d5_53) rfl rfl) ?_
        show Go p e below s n0 _ _ _ (T0.setTop (mkF m 54 #[rv la, iv lz, iv 3, iv 0] [(.ref la)]))
        refine Go.st (fun _ => XS.iconst X0.here C.hx rfl (hb C.hby d5_54)) ?_
        show Go p e below s n0 _ _ _ (T0.setTop (mkF m 55 #[rv la, iv lz, iv 3, iv 0] [(.int 3), (.ref la)]))
        refine Go.iaload C X0 AL (by decide) rfl d5_55 ?_
        show Go p e below s n0 _ _ _ (T0.setTop (mkF m 56 #[rv la, iv lz, iv 3, iv 0] [(.int g3.toInt32)]))
        refine Go.st (fun _ => XS.iloadN X0.here C.hx rfl (hb C.hby d5_56) rfl) ?_
        show Go p e below s n0 _ _ _ (T0.setTop (mkF m 57 #[rv la, iv lz, iv 3, iv 0] [(.int lz), (.int g3.toInt32)]))
        refine Go.icmp_ne C X0 (pc' := 70) d5_57 (by decide) (by decide) (fun hc57_235 => ?_) (fun hc57_235 => ?_)
        · show Go p e below s n0 _ _ _ (T0.setTop (mkF m 70 #[rv la, iv lz, iv 3, iv 0] []))
          refine Go.st (fun _ => XS.iconst X0.here C.hx rfl (hb C.hby d5_70)) ?_
          show Go p e below s n0 _ _ _ (T0.setTop (mkF m 71 #[rv la, iv lz, iv 3, iv 0] [(.int (-1))]))
          exact Go.retI C X0 d5_71 ⟨by simp [kthF, hc6_232, hc23_233, hc40_234, hc57_235], rfl⟩ (by decide) (by decide)
        · show Go p e below s n0 _ _ _ (T0.setTop (mkF m 60 #[rv la, iv lz, iv 3, iv 0] []))
          refine Go.st (fun _ => XS.iloadN X0.here C.hx rfl (hb C.hby d5_60) rfl) ?_
          show Go p e below s n0 _ _ _ (T0.setTop (mkF m 61 #[rv la, iv lz, iv 3, iv 0] [(.int 0)]))
          refine Go.st (fun _ => XS.iloadN X0.here C.hx rfl (hb C.hby d5_61) rfl) ?_
          show Go p e below s n0 _ _ _ (T0.setTop (mkF m 62 #[rv la, iv lz, iv 3, iv 0] [(.int 3), (.int 0)]))
          refine Go.icmp_ne C X0 (pc' := 67) d5_62 (by decide) (by decide) (fun _ => ?_) (fun hc => absurd hc (by decide))
          show Go p e below s n0 _ _ _ (T0.setTop (mkF m 67 #[rv la, iv lz, iv 3, iv 0] []))
          refine Go.st (fun _ => XS.iinc X0.here C.hx rfl (hb C.hby d5_67) rfl (l' := #[rv la, iv lz, iv 3, iv 1]) rfl) ?_
          show Go p e below s n0 _ _ _ (T0.setTop (mkF m 70 #[rv la, iv lz, iv 3, iv 1] []))
          refine Go.st (fun _ => XS.iconst X0.here C.hx rfl (hb C.hby d5_70)) ?_
          show Go p e below s n0 _ _ _ (T0.setTop (mkF m 71 #[rv la, iv lz, iv 3, iv 1] [(.int (-1))]))
          exact Go.retI C X0 d5_71 ⟨by simp [kthF, hc6_232, hc23_233, hc40_234, hc57_235], rfl⟩ (by decide) (by decide)
      · show Go p e below s n0 _ _ _ (T0.setTop (mkF m 43 #[rv la, iv lz, iv 3, iv 0] []))
        refine Go.st (fun _ => XS.iloadN X0.here C.hx rfl (hb C.hby d5_43) rfl) ?_
        show Go p e below s n0 _ _ _ (T0.setTop (mkF m 44 #[rv la, iv lz, iv 3, iv 0] [(.int 0)]))
        refine Go.st (fun _ => XS.iloadN X0.here C.hx rfl (hb C.hby d5_44) rfl) ?_
        show Go p e below s n0 _ _ _ (T0.setTop (mkF m 45 #[rv la, iv lz, iv 3, iv 0] [(.int 3), (.int 0)]))
        refine Go.icmp_ne C X0 (pc' := 50) d5_45 (by decide) (by decide) (fun _ => ?_) (fun hc => absurd hc (by decide))
        show Go p e below s n0 _ _ _ (T0.setTop (mkF m 50 #[rv la, iv lz, iv 3, iv 0] []))
        refine Go.st (fun _ => XS.iinc X0.here C.hx rfl (hb C.hby d5_50) rfl (l' := #[rv la, iv lz, iv 3, iv 1]) rfl) ?_
        show Go p e below s n0 _ _ _ (T0.setTop (mkF m 53 #[rv la, iv lz, iv 3, iv 1] []))
        refine Go.st (fun _ => XS.aloadN X0.here C.hx rfl (hb C.hby d5_53) rfl rfl) ?_
        show Go p e below s n0 _ _ _ (T0.setTop (mkF m 54 #[rv la, iv lz, iv 3, iv 1] [(.ref la)]))
        refine Go.st (fun _ => XS.iconst X0.here C.hx rfl (hb C.hby d5_54)) ?_
        show Go p e below s n0 _ _ _ (T0.setTop (mkF m 55 #[rv la, iv lz, iv 3, iv 1] [(.int 3), (.ref la)]))
        refine Go.iaload C X0 AL (by decide) rfl d5_55 ?_
        show Go p e below s n0 _ _ _ (T0.setTop (mkF m 56 #[rv la, iv lz, iv 3, iv 1] [(.int g3.toInt32)]))
        refine Go.st (fun _ => XS.iloadN X0.here C.hx rfl (hb C.hby d5_56) rfl) ?_
        show Go p e below s n0 _ _ _ (T0.setTop (mkF m 57 #[rv la, iv lz, iv 3, iv 1] [(.int lz), (.int g3.toInt32)]))
        refine Go.icmp_ne C X0 (pc' := 70) d5_57 (by decide) (by decide) (fun hc57_238 => ?_) (fun hc57_238 => ?_)
        · show Go p e below s n0 _ _ _ (T0.setTop (mkF m 70 #[rv la, iv lz, iv 3, iv 1] []))
          refine Go.st (fun _ => XS.iconst X0.here C.hx rfl (hb C.hby d5_70)) ?_
          show Go p e below s n0 _ _ _ (T0.setTop (mkF m 71 #[rv la, iv lz, iv 3, iv 1] [(.int (-1))]))
          exact Go.retI C X0 d5_71 ⟨by simp [kthF, hc6_232, hc23_233, hc40_234, hc57_238], rfl⟩ (by decide) (by decide)
        · show Go p e below s n0 _ _ _ (T0.setTop (mkF m 60 #[rv la, iv lz, iv 3, iv 1] []))
          refine Go.st (fun _ => XS.iloadN X0.here C.hx rfl (hb C.hby d5_60) rfl) ?_
          show Go p e below s n0 _ _ _ (T0.setTop (mkF m 61 #[rv la, iv lz, iv 3, iv 1] [(.int 1)]))
          refine Go.st (fun _ => XS.iloadN X0.here C.hx rfl (hb C.hby d5_61) rfl) ?_
          show Go p e below s n0 _ _ _ (T0.setTop (mkF m 62 #[rv la, iv lz, iv 3, iv 1] [(.int 3), (.int 1)]))
          refine Go.icmp_ne C X0 (pc' := 67) d5_62 (by decide) (by decide) (fun _ => ?_) (fun hc => absurd hc (by decide))
          show Go p e below s n0 _ _ _ (T0.setTop (mkF m 67 #[rv la, iv lz, iv 3, iv 1] []))
          refine Go.st (fun _ => XS.iinc X0.here C.hx rfl (hb C.hby d5_67) rfl (l' := #[rv la, iv lz, iv 3, iv 2]) rfl) ?_
          show Go p e below s n0 _ _ _ (T0.setTop (mkF m 70 #[rv la, iv lz, iv 3, iv 2] []))
          refine Go.st (fun _ => XS.iconst X0.here C.hx rfl (hb C.hby d5_70)) ?_
          show Go p e below s n0 _ _ _ (T0.setTop (mkF m 71 #[rv la, iv lz, iv 3, iv 2] [(.int (-1))]))
          exact Go.retI C X0 d5_71 ⟨by simp [kthF, hc6_232, hc23_233, hc40_234, hc57_238], rfl⟩ (by decide) (by decide)
    · show Go p e below s n0 _ _ _ (T0.setTop (mkF m 26 #[rv la, iv lz, iv 3, iv 0] []))
      refine Go.st (fun _ => XS.iloadN X0.here C.hx rfl (hb C.hby d5_26) rfl) ?_
      show Go p e below s n0 _ _ _ (T0.setTop (mkF m 27 #[rv la, iv lz, iv 3, iv 0] [(.int 0)]))
      refine Go.st (fun _ => XS.iloadN X0.here C.hx rfl (hb C.hby d5_27) rfl) ?_
      show Go p e below s n0 _ _ _ (T0.setTop (mkF m 28 #[rv la, iv lz, iv 3, iv 0] [(.int 3), (.int 0)]))
      refine Go.icmp_ne C X0 (pc' := 33) d5_28 (by decide) (by decide) (fun _ => ?_) (fun hc => absurd hc (by decide))
      show Go p e below s n0 _ _ _ (T0.setTop (mkF m 33 #[rv la, iv lz, iv 3, iv 0] []))
      refine Go.st (fun _ => XS.iinc X0.here C.hx rfl (hb C.hby d5_33) rfl (l' := #[rv la, iv lz, iv 3, iv 1]) rfl) ?_
      show Go p e below s n0 _ _ _ (T0.setTop (mkF m 36 #[rv la, iv lz, iv 3, iv 1] []))
      refine Go.st (fun _ => XS.aloadN X0.here C.hx rfl (hb C.hby d5_36) rfl rfl) ?_
      show Go p e below s n0 _ _ _ (T0.setTop (mkF m 37 #[rv la, iv lz, iv 3, iv 1] [(.ref la)]))
      refine Go.st (fun _ => XS.iconst X0.here C.hx rfl (hb C.hby d5_37)) ?_
      show Go p e below s n0 _ _ _ (T0.setTop (mkF m 38 #[rv la, iv lz, iv 3, iv 1] [(.int 2), (.ref la)]))
      refine Go.iaload C X0 AL (by decide) rfl d5_38 ?_
      show Go p e below s n0 _ _ _ (T0.setTop (mkF m 39 #[rv la, iv lz, iv 3, iv 1] [(.int g2.toInt32)]))
      refine Go.st (fun _ => XS.iloadN X0.here C.hx rfl (hb C.hby d5_39) rfl) ?_
      show Go p e below s n0 _ _ _ (T0.setTop (mkF m 40 #[rv la, iv lz, iv 3, iv 1] [(.int lz), (.int g2.toInt32)]))
      refine Go.icmp_ne C X0 (pc' := 53) d5_40 (by decide) (by decide) (fun hc40_241 => ?_) (fun hc40_241 => ?_)
      · show Go p e below s n0 _ _ _ (T0.setTop (mkF m 53 #[rv la, iv lz, iv 3, iv 1] []))
        refine Go.st (fun _ => XS.aloadN X0.here C.hx rfl (hb C.hby d5_53) rfl rfl) ?_
        show Go p e below s n0 _ _ _ (T0.setTop (mkF m 54 #[rv la, iv lz, iv 3, iv 1] [(.ref la)]))
        refine Go.st (fun _ => XS.iconst X0.here C.hx rfl (hb C.hby d5_54)) ?_
        show Go p e below s n0 _ _ _ (T0.setTop (mkF m 55 #[rv la, iv lz, iv 3, iv 1] [(.int 3), (.ref la)]))
        refine Go.iaload C X0 AL (by decide) rfl d5_55 ?_
        show Go p e below s n0 _ _ _ (T0.setTop (mkF m 56 #[rv la, iv lz, iv 3, iv 1] [(.int g3.toInt32)]))
        refine Go.st (fun _ => XS.iloadN X0.here C.hx rfl (hb C.hby d5_56) rfl) ?_
        show Go p e below s n0 _ _ _ (T0.setTop (mkF m 57 #[rv la, iv lz, iv 3, iv 1] [(.int lz), (.int g3.toInt32)]))
        refine Go.icmp_ne C X0 (pc' := 70) d5_57 (by decide) (by decide) (fun hc57_242 => ?_) (fun hc57_242 => ?_)
        · show Go p e below s n0 _ _ _ (T0.setTop (mkF m 70 #[rv la, iv lz, iv 3, iv 1] []))
          refine Go.st (fun _ => XS.iconst X0.here C.hx rfl (hb C.hby d5_70)) ?_
          show Go p e below s n0 _ _ _ (T0.setTop (mkF m 71 #[rv la, iv lz, iv 3, iv 1] [(.int (-1))]))
          exact Go.retI C X0 d5_71 ⟨by simp [kthF, hc6_232, hc23_233, hc40_241, hc57_242], rfl⟩ (by decide) (by decide)
        · show Go p e below s n0 _ _ _ (T0.setTop (mkF m 60 #[rv la, iv lz, iv 3, iv 1] []))
          refine Go.st (fun _ => XS.iloadN X0.here C.hx rfl (hb C.hby d5_60) rfl) ?_
          show Go p e below s n0 _ _ _ (T0.setTop (mkF m 61 #[rv la, iv lz, iv 3, iv 1] [(.int 1)]))
          refine Go.st (fun _ => XS.iloadN X0.here C.hx rfl (hb C.hby d5_61) rfl) ?_
          show Go p e below s n0 _ _ _ (T0.setTop (mkF m 62 #[rv la, iv lz, iv 3, iv 1] [(.int 3), (.int 1)]))
          refine Go.icmp_ne C X0 (pc' := 67) d5_62 (by decide) (by decide) (fun _ => ?_) (fun hc => absurd hc (by decide))
          show Go p e below s n0 _ _ _ (T0.setTop (mkF m 67 #[rv la, iv lz, iv 3, iv 1] []))
          refine Go.st (fun _ => XS.iinc X0.here C.hx rfl (hb C.hby d5_67) rfl (l' := #[rv la, iv lz, iv 3, iv 2]) rfl) ?_
          show Go p e below s n0 _ _ _ (T0.setTop (mkF m 70 #[rv la, iv lz, iv 3, iv 2] []))
          refine Go.st (fun _ => XS.iconst X0.here C.hx rfl (hb C.hby d5_70)) ?_
          show Go p e below s n0 _ _ _ (T0.setTop (mkF m 71 #[rv la, iv lz, iv 3, iv 2] [(.int (-1))]))
          exact Go.retI C X0 d5_71 ⟨by simp [kthF, hc6_232, hc23_233, hc40_241, hc57_242], rfl⟩ (by decide) (by decide)
      · show Go p e below s n0 _ _ _ (T0.setTop (mkF m 43 #[rv la, iv lz, iv 3, iv 1] []))
        refine Go.st (fun _ => XS.iloadN X0.here C.hx rfl (hb C.hby d5_43) rfl) ?_
        show Go p e below s n0 _ _ _ (T0.setTop (mkF m 44 #[rv la, iv lz, iv 3, iv 1] [(.int 1)]))
        refine Go.st (fun _ => XS.iloadN X0.here C.hx rfl (hb C.hby d5_44) rfl) ?_
        show Go p e below s n0 _ _ _ (T0.setTop (mkF m 45 #[rv la, iv lz, iv 3, iv 1] [(.int 3), (.int 1)]))
        refine Go.icmp_ne C X0 (pc' := 50) d5_45 (by decide) (by decide) (fun _ => ?_) (fun hc => absurd hc (by decide))
        show Go p e below s n0 _ _ _ (T0.setTop (mkF m 50 #[rv la, iv lz, iv 3, iv 1] []))
        refine Go.st (fun _ => XS.iinc X0.here C.hx rfl (hb C.hby d5_50) rfl (l' := #[rv la, iv lz, iv 3, iv 2]) rfl) ?_
        show Go p e below s n0 _ _ _ (T0.setTop (mkF m 53 #[rv la, iv lz, iv 3, iv 2] []))
        refine Go.st (fun _ => XS.aloadN X0.here C.hx rfl (hb C.hby d5_53) rfl rfl) ?_
        show Go p e below s n0 _ _ _ (T0.setTop (mkF m 54 #[rv la, iv lz, iv 3, iv 2] [(.ref la)]))
        refine Go.st (fun _ => XS.iconst X0.here C.hx rfl (hb C.hby d5_54)) ?_
        show Go p e below s n0 _ _ _ (T0.setTop (mkF m 55 #[rv la, iv lz, iv 3, iv 2] [(.int 3), (.ref la)]))
        refine Go.iaload C X0 AL (by decide) rfl d5_55 ?_
        show Go p e below s n0 _ _ _ (T0.setTop (mkF m 56 #[rv la, iv lz, iv 3, iv 2] [(.int g3.toInt32)]))
        refine Go.st (fun _ => XS.iloadN X0.here C.hx rfl (hb C.hby d5_56) rfl) ?_
        show Go p e below s n0 _ _ _ (T0.setTop (mkF m 57 #[rv la, iv lz, iv 3, iv 2] [(.int lz), (.int g3.toInt32)]))
        refine Go.icmp_ne C X0 (pc' := 70) d5_57 (by decide) (by decide) (fun hc57_245 => ?_) (fun hc57_245 => ?_)
        · show Go p e below s n0 _ _ _ (T0.setTop (mkF m 70 #[rv la, iv lz, iv 3, iv 2] []))
          refine Go.st (fun _ => XS.iconst X0.here C.hx rfl (hb C.hby d5_70)) ?_
          show Go p e below s n0 _ _ _ (T0.setTop (mkF m 71 #[rv la, iv lz, iv 3, iv 2] [(.int (-1))]))
          exact Go.retI C X0 d5_71 ⟨by simp [kthF, hc6_232, hc23_233, hc40_241, hc57_245], rfl⟩ (by decide) (by decide)
        · show Go p e below s n0 _ _ _ (T0.setTop (mkF m 60 #[rv la, iv lz, iv 3, iv 2] []))
          refine Go.st (fun _ => XS.iloadN X0.here C.hx rfl (hb C.hby d5_60) rfl) ?_
          show Go p e below s n0 _ _ _ (T0.setTop (mkF m 61 #[rv la, iv lz, iv 3, iv 2] [(.int 2)]))
          refine Go.st (fun _ => XS.iloadN X0.here C.hx rfl (hb C.hby d5_61) rfl) ?_
          show Go p e below s n0 _ _ _ (T0.setTop (mkF m 62 #[rv la, iv lz, iv 3, iv 2] [(.int 3), (.int 2)]))
          refine Go.icmp_ne C X0 (pc' := 67) d5_62 (by decide) (by decide) (fun _ => ?_) (fun hc => absurd hc (by decide))
          show Go p e below s n0 _ _ _ (T0.setTop (mkF m 67 #[rv la, iv lz, iv 3, iv 2] []))
          refine Go.st (fun _ => XS.iinc X0.here C.hx rfl (hb C.hby d5_67) rfl (l' := #[rv la, iv lz, iv 3, iv 3]) rfl) ?_
          show Go p e below s n0 _ _ _ (T0.setTop (mkF m 70 #[rv la, iv lz, iv 3, iv 3] []))
          refine Go.st (fun _ => XS.iconst X0.here C.hx rfl (hb C.hby d5_70)) ?_
          show Go p e below s n0 _ _ _ (T0.setTop (mkF m 71 #[rv la, iv lz, iv 3, iv 3] [(.int (-1))]))
          exact Go.retI C X0 d5_71 ⟨by simp [kthF, hc6_232, hc23_233, hc40_241, hc57_245], rfl⟩ (by decide) (by decide)
  · show Go p e below s n0 _ _ _ (T0.setTop (mkF m 9 #[rv la, iv lz, iv 3, iv 0] []))
    refine Go.st (fun _ => XS.iloadN X0.here C.hx rfl (hb C.hby d5_9) rfl) ?_
    show Go p e below s n0 _ _ _ (T0.setTop (mkF m 10 #[rv la, iv lz, iv 3, iv 0] [(.int 0)]))
    refine Go.st (fun _ => XS.iloadN X0.here C.hx rfl (hb C.hby d5_10) rfl) ?_
    show Go p e below s n0 _ _ _ (T0.setTop (mkF m 11 #[rv la, iv lz, iv 3, iv 0] [(.int 3), (.int 0)]))
    refine Go.icmp_ne C X0 (pc' := 16) d5_11 (by decide) (by decide) (fun _ => ?_) (fun hc => absurd hc (by decide))
    show Go p e below s n0 _ _ _ (T0.setTop (mkF m 16 #[rv la, iv lz, iv 3, iv 0] []))
    refine Go.st (fun _ => XS.iinc X0.here C.hx rfl (hb C.hby d5_16) rfl (l' := #[rv la, iv lz, iv 3, iv 1]) rfl) ?_
    show Go p e below s n0 _ _ _ (T0.setTop (mkF m 19 #[rv la, iv lz, iv 3, iv 1] []))
    refine Go.st (fun _ => XS.aloadN X0.here C.hx rfl (hb C.hby d5_19) rfl rfl) ?_
    show Go p e below s n0 _ _ _ (T0.setTop (mkF m 20 #[rv la, iv lz, iv 3, iv 1] [(.ref la)]))
    refine Go.st (fun _ => XS.iconst X0.here C.hx rfl (hb C.hby d5_20)) ?_
    show Go p e below s n0 _ _ _ (T0.setTop (mkF m 21 #[rv la, iv lz, iv 3, iv 1] [(.int 1), (.ref la)]))
    refine Go.iaload C X0 AL (by decide) rfl d5_21 ?_
    show Go p e below s n0 _ _ _ (T0.setTop (mkF m 22 #[rv la, iv lz, iv 3, iv 1] [(.int g1.toInt32)]))
    refine Go.st (fun _ => XS.iloadN X0.here C.hx rfl (hb C.hby d5_22) rfl) ?_
    show Go p e below s n0 _ _ _ (T0.setTop (mkF m 23 #[rv la, iv lz, iv 3, iv 1] [(.int lz), (.int g1.toInt32)]))
    refine Go.icmp_ne C X0 (pc' := 36) d5_23 (by decide) (by decide) (fun hc23_248 => ?_) (fun hc23_248 => ?_)
    · show Go p e below s n0 _ _ _ (T0.setTop (mkF m 36 #[rv la, iv lz, iv 3, iv 1] []))
      refine Go.st (fun _ => XS.aloadN X0.here C.hx rfl (hb C.hby d5_36) rfl rfl) ?_
      show Go p e below s n0 _ _ _ (T0.setTop (mkF m 37 #[rv la, iv lz, iv 3, iv 1] [(.ref la)]))
      refine Go.st (fun _ => XS.iconst X0.here C.hx rfl (hb C.hby d5_37)) ?_
      show Go p e below s n0 _ _ _ (T0.setTop (mkF m 38 #[rv la, iv lz, iv 3, iv 1] [(.int 2), (.ref la)]))
      refine Go.iaload C X0 AL (by decide) rfl d5_38 ?_
      show Go p e below s n0 _ _ _ (T0.setTop (mkF m 39 #[rv la, iv lz, iv 3, iv 1] [(.int g2.toInt32)]))
      refine Go.st (fun _ => XS.iloadN X0.here C.hx rfl (hb C.hby d5_39) rfl) ?_
      show Go p e below s n0 _ _ _ (T0.setTop (mkF m 40 #[rv la, iv lz, iv 3, iv 1] [(.int lz), (.int g2.toInt32)]))
      refine Go.icmp_ne C X0 (pc' := 53) d5_40 (by decide) (by decide) (fun hc40_249 => ?_) (fun hc40_249 => ?_)
      · show Go p e below s n0 _ _ _ (T0.setTop (mkF m 53 #[rv la, iv lz, iv 3, iv 1] []))
        refine Go.st (fun _ => XS.aloadN X0.here C.hx rfl (hb C.hby d5_53) rfl rfl) ?_
        show Go p e below s n0 _ _ _ (T0.setTop (mkF m 54 #[rv la, iv lz, iv 3, iv 1] [(.ref la)]))
        refine Go.st (fun _ => XS.iconst X0.here C.hx rfl (hb C.hby d5_54)) ?_
        show Go p e below s n0 _ _ _ (T0.setTop (mkF m 55 #[rv la, iv lz, iv 3, iv 1] [(.int 3), (.ref la)]))
        refine Go.iaload C X0 AL (by decide) rfl d5_55 ?_
        show Go p e below s n0 _ _ _ (T0.setTop (mkF m 56 #[rv la, iv lz, iv 3, iv 1] [(.int g3.toInt32)]))
        refine Go.st (fun _ => XS.iloadN X0.here C.hx rfl (hb C.hby d5_56) rfl) ?_
        show Go p e below s n0 _ _ _ (T0.setTop (mkF m 57 #[rv la, iv lz, iv 3, iv 1] [(.int lz), (.int g3.toInt32)]))
        refine Go.icmp_ne C X0 (pc' := 70) d5_57 (by decide) (by decide) (fun hc57_250 => ?_) (fun hc57_250 => ?_)
        · show Go p e below s n0 _ _ _ (T0.setTop (mkF m 70 #[rv la, iv lz, iv 3, iv 1] []))
          refine Go.st (fun _ => XS.iconst X0.here C.hx rfl (hb C.hby d5_70)) ?_
          show Go p e below s n0 _ _ _ (T0.setTop (mkF m 71 #[rv la, iv lz, iv 3, iv 1] [(.int (-1))]))
          exact Go.retI C X0 d5_71 ⟨by simp [kthF, hc6_232, hc23_248, hc40_249, hc57_250], rfl⟩ (by decide) (by decide)
        · show Go p e below s n0 _ _ _ (T0.setTop (mkF m 60 #[rv la, iv lz, iv 3, iv 1] []))
          refine Go.st (fun _ => XS.iloadN X0.here C.hx rfl (hb C.hby d5_60) rfl) ?_
          show Go p e below s n0 _ _ _ (T0.setTop (mkF m 61 #[rv la, iv lz, iv 3, iv 1] [(.int 1)]))
          refine Go.st (fun _ => XS.iloadN X0.here C.hx rfl (hb C.hby d5_61) rfl) ?_
          show Go p e below s n0 _ _ _ (T0.setTop (mkF m 62 #[rv la, iv lz, iv 3, iv 1] [(.int 3), (.int 1)]))
          refine Go.icmp_ne C X0 (pc' := 67) d5_62 (by decide) (by decide) (fun _ => ?_) (fun hc => absurd hc (by decide))
          show Go p e below s n0 _ _ _ (T0.setTop (mkF m 67 #[rv la, iv lz, iv 3, iv 1] []))
          refine Go.st (fun _ => XS.iinc X0.here C.hx rfl (hb C.hby d5_67) rfl (l' := #[rv la, iv lz, iv 3, iv 2]) rfl) ?_
          show Go p e below s n0 _ _ _ (T0.setTop (mkF m 70 #[rv la, iv lz, iv 3, iv 2] []))
          refine Go.st (fun _ => XS.iconst X0.here C.hx rfl (hb C.hby d5_70)) ?_
          show Go p e below s n0 _ _ _ (T0.setTop (mkF m 71 #[rv la, iv lz, iv 3, iv 2] [(.int (-1))]))
          exact Go.retI C X0 d5_71 ⟨by simp [kthF, hc6_232, hc23_248, hc40_249, hc57_250], rfl⟩ (by decide) (by decide)
      · show Go p e below s n0 _ _ _ (T0.setTop (mkF m 43 #[rv la, iv lz, iv 3, iv 1] []))
        refine Go.st (fun _ => XS.iloadN X0.here C.hx rfl (hb C.hby d5_43) rfl) ?_
        show Go p e below s n0 _ _ _ (T0.setTop (mkF m 44 #[rv la, iv lz, iv 3, iv 1] [(.int 1)]))
        refine Go.st (fun _ => XS.iloadN X0.here C.hx rfl (hb C.hby d5_44) rfl) ?_
        show Go p e below s n0 _ _ _ (T0.setTop (mkF m 45 #[rv la, iv lz, iv 3, iv 1] [(.int 3), (.int 1)]))
        refine Go.icmp_ne C X0 (pc' := 50) d5_45 (by decide) (by decide) (fun _ => ?_) (fun hc => absurd hc (by decide))
        show Go p e below s n0 _ _ _ (T0.setTop (mkF m 50 #[rv la, iv lz, iv 3, iv 1] []))
        refine Go.st (fun _ => XS.iinc X0.here C.hx rfl (hb C.hby d5_50) rfl (l' := #[rv la, iv lz, iv 3, iv 2]) rfl) ?_
        show Go p e below s n0 _ _ _ (T0.setTop (mkF m 53 #[rv la, iv lz, iv 3, iv 2] []))
        refine Go.st (fun _ => XS.aloadN X0.here C.hx rfl (hb C.hby d5_53) rfl rfl) ?_
        show Go p e below s n0 _ _ _ (T0.setTop (mkF m 54 #[rv la, iv lz, iv 3, iv 2] [(.ref la)]))
        refine Go.st (fun _ => XS.iconst X0.here C.hx rfl (hb C.hby d5_54)) ?_
        show Go p e below s n0 _ _ _ (T0.setTop (mkF m 55 #[rv la, iv lz, iv 3, iv 2] [(.int 3), (.ref la)]))
        refine Go.iaload C X0 AL (by decide) rfl d5_55 ?_
        show Go p e below s n0 _ _ _ (T0.setTop (mkF m 56 #[rv la, iv lz, iv 3, iv 2] [(.int g3.toInt32)]))
        refine Go.st (fun _ => XS.iloadN X0.here C.hx rfl (hb C.hby d5_56) rfl) ?_
        show Go p e below s n0 _ _ _ (T0.setTop (mkF m 57 #[rv la, iv lz, iv 3, iv 2] [(.int lz), (.int g3.toInt32)]))
        refine Go.icmp_ne C X0 (pc' := 70) d5_57 (by decide) (by decide) (fun hc57_253 => ?_) (fun hc57_253 => ?_)
        · show Go p e below s n0 _ _ _ (T0.setTop (mkF m 70 #[rv la, iv lz, iv 3, iv 2] []))
          refine Go.st (fun _ => XS.iconst X0.here C.hx rfl (hb C.hby d5_70)) ?_
          show Go p e below s n0 _ _ _ (T0.setTop (mkF m 71 #[rv la, iv lz, iv 3, iv 2] [(.int (-1))]))
          exact Go.retI C X0 d5_71 ⟨by simp [kthF, hc6_232, hc23_248, hc40_249, hc57_253], rfl⟩ (by decide) (by decide)
        · show Go p e below s n0 _ _ _ (T0.setTop (mkF m 60 #[rv la, iv lz, iv 3, iv 2] []))
          refine Go.st (fun _ => XS.iloadN X0.here C.hx rfl (hb C.hby d5_60) rfl) ?_
          show Go p e below s n0 _ _ _ (T0.setTop (mkF m 61 #[rv la, iv lz, iv 3, iv 2] [(.int 2)]))
          refine Go.st (fun _ => XS.iloadN X0.here C.hx rfl (hb C.hby d5_61) rfl) ?_
          show Go p e below s n0 _ _ _ (T0.setTop (mkF m 62 #[rv la, iv lz, iv 3, iv 2] [(.int 3), (.int 2)]))
          refine Go.icmp_ne C X0 (pc' := 67) d5_62 (by decide) (by decide) (fun _ => ?_) (fun hc => absurd hc (by decide))
          show Go p e below s n0 _ _ _ (T0.setTop (mkF m 67 #[rv la, iv lz, iv 3, iv 2] []))
          refine Go.st (fun _ => XS.iinc X0.here C.hx rfl (hb C.hby d5_67) rfl (l' := #[rv la, iv lz, iv 3, iv 3]) rfl) ?_
          show Go p e below s n0 _ _ _ (T0.setTop (mkF m 70 #[rv la, iv lz, iv 3, iv 3] []))
          refine Go.st (fun _ => XS.iconst X0.here C.hx rfl (hb C.hby d5_70)) ?_
          show Go p e below s n0 _ _ _ (T0.setTop (mkF m 71 #[rv la, iv lz, iv 3, iv 3] [(.int (-1))]))
          exact Go.retI C X0 d5_71 ⟨by simp [kthF, hc6_232, hc23_248, hc40_249, hc57_253], rfl⟩ (by decide) (by decide)
    · show Go p e below s n0 _ _ _ (T0.setTop (mkF m 26 #[rv la, iv lz, iv 3, iv 1] []))
      refine Go.st (fun _ => XS.iloadN X0.here C.hx rfl (hb C.hby d5_26) rfl) ?_
      show Go p e below s n0 _ _ _ (T0.setTop (mkF m 27 #[rv la, iv lz, iv 3, iv 1] [(.int 1)]))
      refine Go.st (fun _ => XS.iloadN X0.here C.hx rfl (hb C.hby d5_27) rfl) ?_
      show Go p e below s n0 _ _ _ (T0.setTop (mkF m 28 #[rv la, iv lz, iv 3, iv 1] [(.int 3), (.int 1)]))
      refine Go.icmp_ne C X0 (pc' := 33) d5_28 (by decide) (by decide) (fun _ => ?_) (fun hc => absurd hc (by decide))
      show Go p e below s n0 _ _ _ (T0.setTop (mkF m 33 #[rv la, iv lz, iv 3, iv 1] []))
      refine Go.st (fun _ => XS.iinc X0.here C.hx rfl (hb C.hby d5_33) rfl (l' := #[rv la, iv lz, iv 3, iv 2]) rfl) ?_
      show Go p e below s n0 _ _ _ (T0.setTop (mkF m 36 #[rv la, iv lz, iv 3, iv 2] []))
      refine Go.st (fun _ => XS.aloadN X0.here C.hx rfl (hb C.hby d5_36) rfl rfl) ?_
      show Go p e below s n0 _ _ _ (T0.setTop (mkF m 37 #[rv la, iv lz, iv 3, iv 2] [(.ref la)]))
      refine Go.st (fun _ => XS.iconst X0.here C.hx rfl (hb C.hby d5_37)) ?_
      show Go p e below s n0 _ _ _ (T0.setTop (mkF m 38 #[rv la, iv lz, iv 3, iv 2] [(.int 2), (.ref la)]))
      refine Go.iaload C X0 AL (by decide) rfl d5_38 ?_
      show Go p e below s n0 _ _ _ (T0.setTop (mkF m 39 #[rv la, iv lz, iv 3, iv 2] [(.int g2.toInt32)]))
      refine Go.st (fun _ => XS.iloadN X0.here C.hx rfl (hb C.hby d5_39) rfl) ?_
      show Go p e below s n0 _ _ _ (T0.setTop (mkF m 40 #[rv la, iv lz, iv 3, iv 2] [(.int lz), (.int g2.toInt32)]))
      refine Go.icmp_ne C X0 (pc' := 53) d5_40 (by decide) (by decide) (fun hc40_256 => ?_) (fun hc40_256 => ?_)
      · show Go p e below s n0 _ _ _ (T0.setTop (mkF m 53 #[rv la, iv lz, iv 3, iv 2] []))
        refine Go.st (fun _ => XS.aloadN X0.here C.hx rfl (hb C.hby d5_53) rfl rfl) ?_
        show Go p e below s n0 _ _ _ (T0.setTop (mkF m 54 #[rv la, iv lz, iv 3, iv 2] [(.ref la)]))
        refine Go.st (fun _ => XS.iconst X0.here C.hx rfl (hb C.hby d5_54)) ?_
        show Go p e below s n0 _ _ _ (T0.setTop (mkF m 55 #[rv la, iv lz, iv 3, iv 2] [(.int 3), (.ref la)]))
        refine Go.iaload C X0 AL (by decide) rfl d5_55 ?_
        show Go p e below s n0 _ _ _ (T0.setTop (mkF m 56 #[rv la, iv lz, iv 3, iv 2] [(.int g3.toInt32)]))
        refine Go.st (fun _ => XS.iloadN X0.here C.hx rfl (hb C.hby d5_56) rfl) ?_
        show Go p e below s n0 _ _ _ (T0.setTop (mkF m 57 #[rv la, iv lz, iv 3, iv 2] [(.int lz), (.int g3.toInt32)]))
        refine Go.icmp_ne C X0 (pc' := 70) d5_57 (by decide) (by decide) (fun hc57_257 => ?_) (fun hc57_257 => ?_)
        · show Go p e below s n0 _ _ _ (T0.setTop (mkF m 70 #[rv la, iv lz, iv 3, iv 2] []))
          refine Go.st (fun _ => XS.iconst X0.here C.hx rfl (hb C.hby d5_70)) ?_
          show Go p e below s n0 _ _ _ (T0.setTop (mkF m 71 #[rv la, iv lz, iv 3, iv 2] [(.int (-1))]))
          exact Go.retI C X0 d5_71 ⟨by simp [kthF, hc6_232, hc23_248, hc40_256, hc57_257], rfl⟩ (by decide) (by decide)
        · show Go p e below s n0 _ _ _ (T0.setTop (mkF m 60 #[rv la, iv lz, iv 3, iv 2] []))
          refine Go.st (fun _ => XS.iloadN X0.here C.hx rfl (hb C.hby d5_60) rfl) ?_
          show Go p e below s n0 _ _ _ (T0.setTop (mkF m 61 #[rv la, iv lz, iv 3, iv 2] [(.int 2)]))
          refine Go.st (fun _ => XS.iloadN X0.here C.hx rfl (hb C.hby d5_61) rfl) ?_
          show Go p e below s n0 _ _ _ (T0.setTop (mkF m 62 #[rv la, iv lz, iv 3, iv 2] [(.int 3), (.int 2)]))
          refine Go.icmp_ne C X0 (pc' := 67) d5_62 (by decide) (by decide) (fun _ => ?_) (fun hc => absurd hc (by decide))
          show Go p e below s n0 _ _ _ (T0.setTop (mkF m 67 #[rv la, iv lz, iv 3, iv 2] []))
          refine Go.st (fun _ => XS.iinc X0.here C.hx rfl (hb C.hby d5_67) rfl (l' := #[rv la, iv lz, iv 3, iv 3]) rfl) ?_
          show Go p e below s n0 _ _ _ (T0.setTop (mkF m 70 #[rv la, iv lz, iv 3, iv 3] []))
          refine Go.st (fun _ => XS.iconst X0.here C.hx rfl (hb C.hby d5_70)) ?_
          show Go p e below s n0 _ _ _ (T0.setTop (mkF m 71 #[rv la, iv lz, iv 3, iv 3] [(.int (-1))]))
          exact Go.retI C X0 d5_71 ⟨by simp [kthF, hc6_232, hc23_248, hc40_256, hc57_257], rfl⟩ (by decide) (by decide)
      · show Go p e below s n0 _ _ _ (T0.setTop (mkF m 43 #[rv la, iv lz, iv 3, iv 2] []))
        refine Go.st (fun _ => XS.iloadN X0.here C.hx rfl (hb C.hby d5_43) rfl) ?_
        show Go p e below s n0 _ _ _ (T0.setTop (mkF m 44 #[rv la, iv lz, iv 3, iv 2] [(.int 2)]))
        refine Go.st (fun _ => XS.iloadN X0.here C.hx rfl (hb C.hby d5_44) rfl) ?_
        show Go p e below s n0 _ _ _ (T0.setTop (mkF m 45 #[rv la, iv lz, iv 3, iv 2] [(.int 3), (.int 2)]))
        refine Go.icmp_ne C X0 (pc' := 50) d5_45 (by decide) (by decide) (fun _ => ?_) (fun hc => absurd hc (by decide))
        show Go p e below s n0 _ _ _ (T0.setTop (mkF m 50 #[rv la, iv lz, iv 3, iv 2] []))
        refine Go.st (fun _ => XS.iinc X0.here C.hx rfl (hb C.hby d5_50) rfl (l' := #[rv la, iv lz, iv 3, iv 3]) rfl) ?_
        show Go p e below s n0 _ _ _ (T0.setTop (mkF m 53 #[rv la, iv lz, iv 3, iv 3] []))
        refine Go.st (fun _ => XS.aloadN X0.here C.hx rfl (hb C.hby d5_53) rfl rfl) ?_
        show Go p e below s n0 _ _ _ (T0.setTop (mkF m 54 #[rv la, iv lz, iv 3, iv 3] [(.ref la)]))
        refine Go.st (fun _ => XS.iconst X0.here C.hx rfl (hb C.hby d5_54)) ?_
        show Go p e below s n0 _ _ _ (T0.setTop (mkF m 55 #[rv la, iv lz, iv 3, iv 3] [(.int 3), (.ref la)]))
        refine Go.iaload C X0 AL (by decide) rfl d5_55 ?_
        show Go p e below s n0 _ _ _ (T0.setTop (mkF m 56 #[rv la, iv lz, iv 3, iv 3] [(.int g3.toInt32)]))
        refine Go.st (fun _ => XS.iloadN X0.here C.hx rfl (hb C.hby d5_56) rfl) ?_
        show Go p e below s n0 _ _ _ (T0.setTop (mkF m 57 #[rv la, iv lz, iv 3, iv 3] [(.int lz), (.int g3.toInt32)]))
        refine Go.icmp_ne C X0 (pc' := 70) d5_57 (by decide) (by decide) (fun hc57_260 => ?_) (fun hc57_260 => ?_)
        · show Go p e below s n0 _ _ _ (T0.setTop (mkF m 70 #[rv la, iv lz, iv 3, iv 3] []))
          refine Go.st (fun _ => XS.iconst X0.here C.hx rfl (hb C.hby d5_70)) ?_
          show Go p e below s n0 _ _ _ (T0.setTop (mkF m 71 #[rv la, iv lz, iv 3, iv 3] [(.int (-1))]))
          exact Go.retI C X0 d5_71 ⟨by simp [kthF, hc6_232, hc23_248, hc40_256, hc57_260], rfl⟩ (by decide) (by decide)
        · show Go p e below s n0 _ _ _ (T0.setTop (mkF m 60 #[rv la, iv lz, iv 3, iv 3] []))
          refine Go.st (fun _ => XS.iloadN X0.here C.hx rfl (hb C.hby d5_60) rfl) ?_
          show Go p e below s n0 _ _ _ (T0.setTop (mkF m 61 #[rv la, iv lz, iv 3, iv 3] [(.int 3)]))
          refine Go.st (fun _ => XS.iloadN X0.here C.hx rfl (hb C.hby d5_61) rfl) ?_
          show Go p e below s n0 _ _ _ (T0.setTop (mkF m 62 #[rv la, iv lz, iv 3, iv 3] [(.int 3), (.int 3)]))
          refine Go.icmp_ne C X0 (pc' := 67) d5_62 (by decide) (by decide) (fun hc => absurd hc (by decide)) (fun _ => ?_)
          show Go p e below s n0 _ _ _ (T0.setTop (mkF m 65 #[rv la, iv lz, iv 3, iv 3] []))
          refine Go.st (fun _ => XS.iconst X0.here C.hx rfl (hb C.hby d5_65)) ?_
          show Go p e below s n0 _ _ _ (T0.setTop (mkF m 66 #[rv la, iv lz, iv 3, iv 3] [(.int 3)]))
          exact Go.retI C X0 d5_66 ⟨by simp [kthF, hc6_232, hc23_248, hc40_256, hc57_260], rfl⟩ (by decide) (by decide)
theorem d4_0 : decode method_4_code 0 = .ok (.aload_n 0, 1) := by decide +kernel
theorem d4_1 : decode method_4_code 1 = .ok (.ifnonnull 5, 3) := by decide +kernel
theorem d4_4 : decode method_4_code 4 = .ok (.iconst 0, 1) := by decide +kernel
theorem d4_5 : decode method_4_code 5 = .ok (.ireturn, 1) := by decide +kernel
theorem d4_6 : decode method_4_code 6 = .ok (.aload_n 1, 1) := by decide +kernel
theorem d4_7 : decode method_4_code 7 = .ok (.iconst 0, 1) := by decide +kernel
theorem d4_8 : decode method_4_code 8 = .ok (.iaload, 1) := by decide +kernel
theorem d4_9 : decode method_4_code 9 = .ok (.iload_n 2, 1) := by decide +kernel
theorem d4_10 : decode method_4_code 10 = .ok (.if_icmp .ne 7, 3) := by decide +kernel
theorem d4_13 : decode method_4_code 13 = .ok (.iconst 1, 1) := by decide +kernel
theorem d4_14 : decode method_4_code 14 = .ok (.goto 4, 3) := by decide +kernel
theorem d4_17 : decode method_4_code 17 = .ok (.iconst 0, 1) := by decide +kernel
theorem d4_18 : decode method_4_code 18 = .ok (.aload_n 1, 1) := by decide +kernel
theorem d4_19 : decode method_4_code 19 = .ok (.iconst 1, 1) := by decide +kernel
theorem d4_20 : decode method_4_code 20 = .ok (.iaload, 1) := by decide +kernel
theorem d4_21 : decode method_4_code 21 = .ok (.iload_n 2, 1) := by decide +kernel
theorem d4_22 : decode method_4_code 22 = .ok (.if_icmp .ne 7, 3) := by decide +kernel
theorem d4_25 : decode method_4_code 25 = .ok (.iconst 1, 1) := by decide +kernel
theorem d4_26 : decode method_4_code 26 = .ok (.goto 4, 3) := by decide +kernel
theorem d4_29 : decode method_4_code 29 = .ok (.iconst 0, 1) := by decide +kernel
theorem d4_30 : decode method_4_code 30 = .ok (.iadd, 1) := by decide +kernel
theorem d4_31 : decode method_4_code 31 = .ok (.aload_n 1, 1) := by decide +kernel
theorem d4_32 : decode method_4_code 32 = .ok (.iconst 2, 1) := by decide +kernel
theorem d4_33 : decode method_4_code 33 = .ok (.iaload, 1) := by decide +kernel
theorem d4_34 : decode method_4_code 34 = .ok (.iload_n 2, 1) := by decide +kernel
theorem d4_35 : decode method_4_code 35 = .ok (.if_icmp .ne 7, 3) := by decide +kernel
theorem d4_38 : decode method_4_code 38 = .ok (.iconst 1, 1) := by decide +kernel
theorem d4_39 : decode method_4_code 39 = .ok (.goto 4, 3) := by decide +kernel
theorem d4_42 : decode method_4_code 42 = .ok (.iconst 0, 1) := by decide +kernel
theorem d4_43 : decode method_4_code 43 = .ok (.iadd, 1) := by decide +kernel
theorem d4_44 : decode method_4_code 44 = .ok (.aload_n 1, 1) := by decide +kernel
theorem d4_45 : decode method_4_code 45 = .ok (.iconst 3, 1) := by decide +kernel
theorem d4_46 : decode method_4_code 46 = .ok (.iaload, 1) := by decide +kernel
theorem d4_47 : decode method_4_code 47 = .ok (.iload_n 2, 1) := by decide +kernel
theorem d4_48 : decode method_4_code 48 = .ok (.if_icmp .ne 7, 3) := by decide +kernel
theorem d4_51 : decode method_4_code 51 = .ok (.iconst 1, 1) := by decide +kernel
theorem d4_52 : decode method_4_code 52 = .ok (.goto 4, 3) := by decide +kernel
theorem d4_55 : decode method_4_code 55 = .ok (.iconst 0, 1) := by decide +kernel
theorem d4_56 : decode method_4_code 56 = .ok (.iadd, 1) := by decide +kernel
theorem d4_57 : decode method_4_code 57 = .ok (.istore_n 3, 1) := by decide +kernel
theorem d4_58 : decode method_4_code 58 = .ok (.aload_n 0, 1) := by decide +kernel
theorem d4_59 : decode method_4_code 59 = .ok (.arraylength, 1) := by decide +kernel
theorem d4_60 : decode method_4_code 60 = .ok (.iload_n 3, 1) := by decide +kernel
theorem d4_61 : decode method_4_code 61 = .ok (.if_icmp .eq 5, 3) := by decide +kernel
theorem d4_64 : decode method_4_code 64 = .ok (.iconst 0, 1) := by decide +kernel
theorem d4_65 : decode method_4_code 65 = .ok (.ireturn, 1) := by decide +kernel
theorem d4_66 : decode method_4_code 66 = .ok (.iload_n 3, 1) := by decide +kernel
theorem d4_67 : decode method_4_code 67 = .ok (.ifCond .le 17, 3) := by decide +kernel
theorem d4_70 : decode method_4_code 70 = .ok (.aload_n 0, 1) := by decide +kernel
theorem d4_71 : decode method_4_code 71 = .ok (.iconst 0, 1) := by decide +kernel
theorem d4_72 : decode method_4_code 72 = .ok (.iaload, 1) := by decide +kernel
theorem d4_73 : decode method_4_code 73 = .ok (.aload_n 1, 1) := by decide +kernel
theorem d4_74 : decode method_4_code 74 = .ok (.iload_n 2, 1) := by decide +kernel
theorem d4_75 : decode method_4_code 75 = .ok (.iconst 0, 1) := by decide +kernel
theorem d4_76 : decode method_4_code 76 = .ok (.invokestatic 23, 3) := by decide +kernel
theorem d4_79 : decode method_4_code 79 = .ok (.if_icmp .eq 5, 3) := by decide +kernel
theorem d4_82 : decode method_4_code 82 = .ok (.iconst 0, 1) := by decide +kernel
theorem d4_83 : decode method_4_code 83 = .ok (.ireturn, 1) := by decide +kernel
theorem d4_84 : decode method_4_code 84 = .ok (.iload_n 3, 1) := by decide +kernel
theorem d4_85 : decode method_4_code 85 = .ok (.iconst 1, 1) := by decide +kernel
theorem d4_86 : decode method_4_code 86 = .ok (.if_icmp .le 17, 3) := by decide +kernel
theorem d4_89 : decode method_4_code 89 = .ok (.aload_n 0, 1) := by decide +kernel
theorem d4_90 : decode method_4_code 90 = .ok (.iconst 1, 1) := by decide +kernel
theorem d4_91 : decode method_4_code 91 = .ok (.iaload, 1) := by decide +kernel
theorem d4_92 : decode method_4_code 92 = .ok (.aload_n 1, 1) := by decide +kernel
theorem d4_93 : decode method_4_code 93 = .ok (.iload_n 2, 1) := by decide +kernel
theorem d4_94 : decode method_4_code 94 = .ok (.iconst 1, 1) := by decide +kernel
theorem d4_95 : decode method_4_code 95 = .ok (.invokestatic 23, 3) := by decide +kernel
theorem d4_98 : decode method_4_code 98 = .ok (.if_icmp .eq 5, 3) := by decide +kernel
theorem d4_101 : decode method_4_code 101 = .ok (.iconst 0, 1) := by decide +kernel
theorem d4_102 : decode method_4_code 102 = .ok (.ireturn, 1) := by decide +kernel
theorem d4_103 : decode method_4_code 103 = .ok (.iload_n 3, 1) := by decide +kernel
theorem d4_104 : decode method_4_code 104 = .ok (.iconst 2, 1) := by decide +kernel
theorem d4_105 : decode method_4_code 105 = .ok (.if_icmp .le 17, 3) := by decide +kernel
theorem d4_108 : decode method_4_code 108 = .ok (.aload_n 0, 1) := by decide +kernel
theorem d4_109 : decode method_4_code 109 = .ok (.iconst 2, 1) := by decide +kernel
theorem d4_110 : decode method_4_code 110 = .ok (.iaload, 1) := by decide +kernel
theorem d4_111 : decode method_4_code 111 = .ok (.aload_n 1, 1) := by decide +kernel
theorem d4_112 : decode method_4_code 112 = .ok (.iload_n 2, 1) := by decide +kernel
theorem d4_113 : decode method_4_code 113 = .ok (.iconst 2, 1) := by decide +kernel
theorem d4_114 : decode method_4_code 114 = .ok (.invokestatic 23, 3) := by decide +kernel
theorem d4_117 : decode method_4_code 117 = .ok (.if_icmp .eq 5, 3) := by decide +kernel
theorem d4_120 : decode method_4_code 120 = .ok (.iconst 0, 1) := by decide +kernel
theorem d4_121 : decode method_4_code 121 = .ok (.ireturn, 1) := by decide +kernel
theorem d4_122 : decode method_4_code 122 = .ok (.iload_n 3, 1) := by decide +kernel
theorem d4_123 : decode method_4_code 123 = .ok (.iconst 3, 1) := by decide +kernel
theorem d4_124 : decode method_4_code 124 = .ok (.if_icmp .le 17, 3) := by decide +kernel
theorem d4_127 : decode method_4_code 127 = .ok (.aload_n 0, 1) := by decide +kernel
theorem d4_128 : decode method_4_code 128 = .ok (.iconst 3, 1) := by decide +kernel
theorem d4_129 : decode method_4_code 129 = .ok (.iaload, 1) := by decide +kernel
theorem d4_130 : decode method_4_code 130 = .ok (.aload_n 1, 1) := by decide +kernel
theorem d4_131 : decode method_4_code 131 = .ok (.iload_n 2, 1) := by decide +kernel
theorem d4_132 : decode method_4_code 132 = .ok (.iconst 3, 1) := by decide +kernel
theorem d4_133 : decode method_4_code 133 = .ok (.invokestatic 23, 3) := by decide +kernel
theorem d4_136 : decode method_4_code 136 = .ok (.if_icmp .eq 5, 3) := by decide +kernel
theorem d4_139 : decode method_4_code 139 = .ok (.iconst 0, 1) := by decide +kernel
theorem d4_140 : decode method_4_code 140 = .ok (.ireturn, 1) := by decide +kernel
theorem d4_141 : decode method_4_code 141 = .ok (.iconst 1, 1) := by decide +kernel
theorem d4_142 : decode method_4_code 142 = .ok (.ireturn, 1) := by decide +kernel
theorem pf_4 : plainFor (⟨"com/example/layrd/layrd/layout/LayeredGraphItemOrderPinLaw", "rowOk", "([I[II)Z"⟩ : MethodName) = true := plainFor_of_name (by first | (simp [plainName, overriddenIn]; done) | decide +kernel)
theorem pd_4 : parseMethodDescriptor "([I[II)Z" = some ⟨[(.array .int), (.array .int), .int], some .boolean⟩ := by decide +kernel
set_option maxRecDepth 65536 in
set_option maxHeartbeats 40000000 in
theorem con_rowOk (l : Launch) (Z : State) (a0 : Array Value) (hw : ∀ d ∈ tables_1, d.before a0 Z = true) (n0 : Nat) (h0 : Heap) (Z0 : n0 ≤ h0.size) (rx la : Addr) (lz : Int32) (cc xk g0 g1 g2 g3 : Nat) (hx : xk < 4) (g04 : g0 < 4) (g14 : g1 < 4) (g24 : g2 < 4) (g34 : g3 < 4) (hlz : lz = xk.toInt32) (AX : AR Z h0 rx .int ((rowP (fsF g0 g1 g2 g3) tsI 4 4 xk).map Value.int)) (AL : AR Z h0 la .int [(.int g0.toInt32), (.int g1.toInt32), (.int g2.toInt32), (.int g3.toInt32)]) :
    Con l Z (⟨"com/example/layrd/layrd/layout/LayeredGraphItemOrderPinLaw", "rowOk", "([I[II)Z"⟩ : MethodName) method_4_code 4 (some .boolean) [] ({ frames := 1, cells := 0, slots := 0, locals := 20 } : Room) n0 #[(.ref rx), (.ref la), (.int lz)] h0 (fun v h => v = some (.int 1) ∧ h = h0) := by
  refine Con.mk pf_4 hw Z0 ?_
  intro p e s m below meth c T0 C X0
  have ef : entryFrame m #[(.ref rx), (.ref la), (.int lz)] 4 = mkF m 0 #[rv rx, rv la, iv lz, .unset] [] := by first | (simp [entryFrame, mkF, argsToLocals, Value.category]; done) | rfl
  rw [ef]
  subst hlz
  show Go p e below s n0 _ _ _ (T0.setTop (mkF m 0 #[rv rx, rv la, iv xk.toInt32, .unset] []))
  refine Go.st (fun _ => XS.aloadN X0.here C.hx rfl (hb C.hby d4_0) rfl rfl) ?_
  show Go p e below s n0 _ _ _ (T0.setTop (mkF m 1 #[rv rx, rv la, iv xk.toInt32, .unset] [(.ref rx)]))
  refine Go.st (fun _ => XS.ifnonnullYes X0.here C.hx rfl (pc0 := 1) (pc' := 6) rfl (hb C.hby d4_1) rfl (by decide) (by decide)) ?_
  show Go p e below s n0 _ _ _ (T0.setTop (mkF m 6 #[rv rx, rv la, iv xk.toInt32, .unset] []))
  refine Go.st (fun _ => XS.aloadN X0.here C.hx rfl (hb C.hby d4_6) rfl rfl) ?_
  show Go p e below s n0 _ _ _ (T0.setTop (mkF m 7 #[rv rx, rv la, iv xk.toInt32, .unset] [(.ref la)]))
  refine Go.st (fun _ => XS.iconst X0.here C.hx rfl (hb C.hby d4_7)) ?_
  show Go p e below s n0 _ _ _ (T0.setTop (mkF m 8 #[rv rx, rv la, iv xk.toInt32, .unset] [(.int 0), (.ref la)]))
  refine Go.iaload C X0 AL (by decide) rfl d4_8 ?_
  show Go p e below s n0 _ _ _ (T0.setTop (mkF m 9 #[rv rx, rv la, iv xk.toInt32, .unset] [(.int g0.toInt32)]))
  refine Go.st (fun _ => XS.iloadN X0.here C.hx rfl (hb C.hby d4_9) rfl) ?_
  show Go p e below s n0 _ _ _ (T0.setTop (mkF m 10 #[rv rx, rv la, iv xk.toInt32, .unset] [(.int xk.toInt32), (.int g0.toInt32)]))
  refine Go.icmp_ne C X0 (pc' := 17) d4_10 (by decide) (by decide) (fun hc10_262 => ?_) (fun hc10_262 => ?_)
  · show Go p e below s n0 _ _ _ (T0.setTop (mkF m 17 #[rv rx, rv la, iv xk.toInt32, .unset] []))
    refine Go.st (fun _ => XS.iconst X0.here C.hx rfl (hb C.hby d4_17)) ?_
    show Go p e below s n0 _ _ _ (T0.setTop (mkF m 18 #[rv rx, rv la, iv xk.toInt32, .unset] [(.int 0)]))
    refine Go.st (fun _ => XS.aloadN X0.here C.hx rfl (hb C.hby d4_18) rfl rfl) ?_
    show Go p e below s n0 _ _ _ (T0.setTop (mkF m 19 #[rv rx, rv la, iv xk.toInt32, .unset] [(.ref la), (.int 0)]))
    refine Go.st (fun _ => XS.iconst X0.here C.hx rfl (hb C.hby d4_19)) ?_
    show Go p e below s n0 _ _ _ (T0.setTop (mkF m 20 #[rv rx, rv la, iv xk.toInt32, .unset] [(.int 1), (.ref la), (.int 0)]))
    refine Go.iaload C X0 AL (by decide) rfl d4_20 ?_
    show Go p e below s n0 _ _ _ (T0.setTop (mkF m 21 #[rv rx, rv la, iv xk.toInt32, .unset] [(.int g1.toInt32), (.int 0)]))
    refine Go.st (fun _ => XS.iloadN X0.here C.hx rfl (hb C.hby d4_21) rfl) ?_
    show Go p e below s n0 _ _ _ (T0.setTop (mkF m 22 #[rv rx, rv la, iv xk.toInt32, .unset] [(.int xk.toInt32), (.int g1.toInt32), (.int 0)]))
    refine Go.icmp_ne C X0 (pc' := 29) d4_22 (by decide) (by decide) (fun hc22_263 => ?_) (fun hc22_263 => ?_)
    · show Go p e below s n0 _ _ _ (T0.setTop (mkF m 29 #[rv rx, rv la, iv xk.toInt32, .unset] [(.int 0)]))
      refine Go.st (fun _ => XS.iconst X0.here C.hx rfl (hb C.hby d4_29)) ?_
      show Go p e below s n0 _ _ _ (T0.setTop (mkF m 30 #[rv rx, rv la, iv xk.toInt32, .unset] [(.int 0), (.int 0)]))
      refine Go.st (fun _ => XS.iadd X0.here C.hx rfl (hb C.hby d4_30) rfl) ?_
      show Go p e below s n0 _ _ _ (T0.setTop (mkF m 31 #[rv rx, rv la, iv xk.toInt32, .unset] [(.int 0)]))
      refine Go.st (fun _ => XS.aloadN X0.here C.hx rfl (hb C.hby d4_31) rfl rfl) ?_
      show Go p e below s n0 _ _ _ (T0.setTop (mkF m 32 #[rv rx, rv la, iv xk.toInt32, .unset] [(.ref la), (.int 0)]))
      refine Go.st (fun _ => XS.iconst X0.here C.hx rfl (hb C.hby d4_32)) ?_
      show Go p e below s n0 _ _ _ (T0.setTop (mkF m 33 #[rv rx, rv la, iv xk.toInt32, .unset] [(.int 2), (.ref la), (.int 0)]))
      refine Go.iaload C X0 AL (by decide) rfl d4_33 ?_
      show Go p e below s n0 _ _ _ (T0.setTop (mkF m 34 #[rv rx, rv la, iv xk.toInt32, .unset] [(.int g2.toInt32), (.int 0)]))
      refine Go.st (fun _ => XS.iloadN X0.here C.hx rfl (hb C.hby d4_34) rfl) ?_
      show Go p e below s n0 _ _ _ (T0.setTop (mkF m 35 #[rv rx, rv la, iv xk.toInt32, .unset] [(.int xk.toInt32), (.int g2.toInt32), (.int 0)]))
      refine Go.icmp_ne C X0 (pc' := 42) d4_35 (by decide) (by decide) (fun hc35_264 => ?_) (fun hc35_264 => ?_)
      · show Go p e below s n0 _ _ _ (T0.setTop (mkF m 42 #[rv rx, rv la, iv xk.toInt32, .unset] [(.int 0)]))
        refine Go.st (fun _ => XS.iconst X0.here C.hx rfl (hb C.hby d4_42)) ?_
        show Go p e below s n0 _ _ _ (T0.setTop (mkF m 43 #[rv rx, rv la, iv xk.toInt32, .unset] [(.int 0), (.int 0)]))
        refine Go.st (fun _ => XS.iadd X0.here C.hx rfl (hb C.hby d4_43) rfl) ?_
        show Go p e below s n0 _ _ _ (T0.setTop (mkF m 44 #[rv rx, rv la, iv xk.toInt32, .unset] [(.int 0)]))
        refine Go.st (fun _ => XS.aloadN X0.here C.hx rfl (hb C.hby d4_44) rfl rfl) ?_
        show Go p e below s n0 _ _ _ (T0.setTop (mkF m 45 #[rv rx, rv la, iv xk.toInt32, .unset] [(.ref la), (.int 0)]))
        refine Go.st (fun _ => XS.iconst X0.here C.hx rfl (hb C.hby d4_45)) ?_
        show Go p e below s n0 _ _ _ (T0.setTop (mkF m 46 #[rv rx, rv la, iv xk.toInt32, .unset] [(.int 3), (.ref la), (.int 0)]))
        refine Go.iaload C X0 AL (by decide) rfl d4_46 ?_
        show Go p e below s n0 _ _ _ (T0.setTop (mkF m 47 #[rv rx, rv la, iv xk.toInt32, .unset] [(.int g3.toInt32), (.int 0)]))
        refine Go.st (fun _ => XS.iloadN X0.here C.hx rfl (hb C.hby d4_47) rfl) ?_
        show Go p e below s n0 _ _ _ (T0.setTop (mkF m 48 #[rv rx, rv la, iv xk.toInt32, .unset] [(.int xk.toInt32), (.int g3.toInt32), (.int 0)]))
        refine Go.icmp_ne C X0 (pc' := 55) d4_48 (by decide) (by decide) (fun hc48_265 => ?_) (fun hc48_265 => ?_)
        · show Go p e below s n0 _ _ _ (T0.setTop (mkF m 55 #[rv rx, rv la, iv xk.toInt32, .unset] [(.int 0)]))
          refine Go.st (fun _ => XS.iconst X0.here C.hx rfl (hb C.hby d4_55)) ?_
          show Go p e below s n0 _ _ _ (T0.setTop (mkF m 56 #[rv rx, rv la, iv xk.toInt32, .unset] [(.int 0), (.int 0)]))
          refine Go.st (fun _ => XS.iadd X0.here C.hx rfl (hb C.hby d4_56) rfl) ?_
          show Go p e below s n0 _ _ _ (T0.setTop (mkF m 57 #[rv rx, rv la, iv xk.toInt32, .unset] [(.int 0)]))
          refine Go.st (fun _ => XS.istoreN X0.here C.hx rfl (hb C.hby d4_57) rfl (l' := #[rv rx, rv la, iv xk.toInt32, iv 0]) rfl) ?_
          have p0 := eq_false (fun u : xk = g0 => hc10_262 ((eqI (by omega) (by omega)).mpr u.symm))
          have p1 := eq_false (fun u : xk = g1 => hc22_263 ((eqI (by omega) (by omega)).mpr u.symm))
          have p2 := eq_false (fun u : xk = g2 => hc35_264 ((eqI (by omega) (by omega)).mpr u.symm))
          have p3 := eq_false (fun u : xk = g3 => hc48_265 ((eqI (by omega) (by omega)).mpr u.symm))
          have RL : rowP (fsF g0 g1 g2 g3) tsI 4 4 xk = [] := by
            simp only [rowP, cnt, fsF0, fsF1, fsF2, fsF3, tsI0, tsI1, tsI2, tsI3, p0, p1, p2, p3, if_true, if_false]
            try rfl
          have AXX : AR Z h0 rx .int [] := by have u := AX; rw [RL] at u; exact u
          show Go p e below s n0 _ _ _ (T0.setTop (mkF m 58 #[rv rx, rv la, iv xk.toInt32, iv 0] []))
          refine Go.st (fun _ => XS.aloadN X0.here C.hx rfl (hb C.hby d4_58) rfl rfl) ?_
          show Go p e below s n0 _ _ _ (T0.setTop (mkF m 59 #[rv rx, rv la, iv xk.toInt32, iv 0] [(.ref rx)]))
          refine Go.alen C X0 AXX (z := (0 : Int32)) rfl d4_59 ?_
          show Go p e below s n0 _ _ _ (T0.setTop (mkF m 60 #[rv rx, rv la, iv xk.toInt32, iv 0] [(.int 0)]))
          refine Go.st (fun _ => XS.iloadN X0.here C.hx rfl (hb C.hby d4_60) rfl) ?_
          show Go p e below s n0 _ _ _ (T0.setTop (mkF m 61 #[rv rx, rv la, iv xk.toInt32, iv 0] [(.int 0), (.int 0)]))
          refine Go.icmp_eq C X0 (pc' := 66) d4_61 (by decide) (by decide) (fun _ => ?_) (fun hc => absurd hc (by decide))
          show Go p e below s n0 _ _ _ (T0.setTop (mkF m 66 #[rv rx, rv la, iv xk.toInt32, iv 0] []))
          refine Go.st (fun _ => XS.iloadN X0.here C.hx rfl (hb C.hby d4_66) rfl) ?_
          show Go p e below s n0 _ _ _ (T0.setTop (mkF m 67 #[rv rx, rv la, iv xk.toInt32, iv 0] [(.int 0)]))
          refine Go.if_le C X0 (pc' := 84) d4_67 (by decide) (by decide) (fun _ => ?_) (fun hc => absurd hc (by decide))
          show Go p e below s n0 _ _ _ (T0.setTop (mkF m 84 #[rv rx, rv la, iv xk.toInt32, iv 0] []))
          refine Go.st (fun _ => XS.iloadN X0.here C.hx rfl (hb C.hby d4_84) rfl) ?_
          show Go p e below s n0 _ _ _ (T0.setTop (mkF m 85 #[rv rx, rv la, iv xk.toInt32, iv 0] [(.int 0)]))
          refine Go.st (fun _ => XS.iconst X0.here C.hx rfl (hb C.hby d4_85)) ?_
          show Go p e below s n0 _ _ _ (T0.setTop (mkF m 86 #[rv rx, rv la, iv xk.toInt32, iv 0] [(.int 1), (.int 0)]))
          refine Go.icmp_le C X0 (pc' := 103) d4_86 (by decide) (by decide) (fun _ => ?_) (fun hc => absurd hc (by decide))
          show Go p e below s n0 _ _ _ (T0.setTop (mkF m 103 #[rv rx, rv la, iv xk.toInt32, iv 0] []))
          refine Go.st (fun _ => XS.iloadN X0.here C.hx rfl (hb C.hby d4_103) rfl) ?_
          show Go p e below s n0 _ _ _ (T0.setTop (mkF m 104 #[rv rx, rv la, iv xk.toInt32, iv 0] [(.int 0)]))
          refine Go.st (fun _ => XS.iconst X0.here C.hx rfl (hb C.hby d4_104)) ?_
          show Go p e below s n0 _ _ _ (T0.setTop (mkF m 105 #[rv rx, rv la, iv xk.toInt32, iv 0] [(.int 2), (.int 0)]))
          refine Go.icmp_le C X0 (pc' := 122) d4_105 (by decide) (by decide) (fun _ => ?_) (fun hc => absurd hc (by decide))
          show Go p e below s n0 _ _ _ (T0.setTop (mkF m 122 #[rv rx, rv la, iv xk.toInt32, iv 0] []))
          refine Go.st (fun _ => XS.iloadN X0.here C.hx rfl (hb C.hby d4_122) rfl) ?_
          show Go p e below s n0 _ _ _ (T0.setTop (mkF m 123 #[rv rx, rv la, iv xk.toInt32, iv 0] [(.int 0)]))
          refine Go.st (fun _ => XS.iconst X0.here C.hx rfl (hb C.hby d4_123)) ?_
          show Go p e below s n0 _ _ _ (T0.setTop (mkF m 124 #[rv rx, rv la, iv xk.toInt32, iv 0] [(.int 3), (.int 0)]))
          refine Go.icmp_le C X0 (pc' := 141) d4_124 (by decide) (by decide) (fun _ => ?_) (fun hc => absurd hc (by decide))
          show Go p e below s n0 _ _ _ (T0.setTop (mkF m 141 #[rv rx, rv la, iv xk.toInt32, iv 0] []))
          refine Go.st (fun _ => XS.iconst X0.here C.hx rfl (hb C.hby d4_141)) ?_
          show Go p e below s n0 _ _ _ (T0.setTop (mkF m 142 #[rv rx, rv la, iv xk.toInt32, iv 0] [(.int 1)]))
          exact Go.retZ C X0 (by decide) d4_142 ⟨rfl, rfl⟩ (by decide) (by decide)
        · show Go p e below s n0 _ _ _ (T0.setTop (mkF m 51 #[rv rx, rv la, iv xk.toInt32, .unset] [(.int 0)]))
          refine Go.st (fun _ => XS.iconst X0.here C.hx rfl (hb C.hby d4_51)) ?_
          show Go p e below s n0 _ _ _ (T0.setTop (mkF m 52 #[rv rx, rv la, iv xk.toInt32, .unset] [(.int 1), (.int 0)]))
          refine Go.st (fun _ => XS.goto X0.here C.hx rfl (pc0 := 52) (pc' := 56) rfl (hb C.hby d4_52) (by decide) (by decide)) ?_
          show Go p e below s n0 _ _ _ (T0.setTop (mkF m 56 #[rv rx, rv la, iv xk.toInt32, .unset] [(.int 1), (.int 0)]))
          refine Go.st (fun _ => XS.iadd X0.here C.hx rfl (hb C.hby d4_56) rfl) ?_
          show Go p e below s n0 _ _ _ (T0.setTop (mkF m 57 #[rv rx, rv la, iv xk.toInt32, .unset] [(.int 1)]))
          refine Go.st (fun _ => XS.istoreN X0.here C.hx rfl (hb C.hby d4_57) rfl (l' := #[rv rx, rv la, iv xk.toInt32, iv 1]) rfl) ?_
          have p0 := eq_false (fun u : xk = g0 => hc10_262 ((eqI (by omega) (by omega)).mpr u.symm))
          have p1 := eq_false (fun u : xk = g1 => hc22_263 ((eqI (by omega) (by omega)).mpr u.symm))
          have p2 := eq_false (fun u : xk = g2 => hc35_264 ((eqI (by omega) (by omega)).mpr u.symm))
          have p3 := eq_true ((eqI (by omega) (by omega)).mp hc48_265).symm
          have RL : rowP (fsF g0 g1 g2 g3) tsI 4 4 xk = [(3 : Int32)] := by
            simp only [rowP, cnt, fsF0, fsF1, fsF2, fsF3, tsI0, tsI1, tsI2, tsI3, p0, p1, p2, p3, if_true, if_false]
            try rfl
          have AXX : AR Z h0 rx .int [(.int 3)] := by have u := AX; rw [RL] at u; exact u
          show Go p e below s n0 _ _ _ (T0.setTop (mkF m 58 #[rv rx, rv la, iv xk.toInt32, iv 1] []))
          refine Go.st (fun _ => XS.aloadN X0.here C.hx rfl (hb C.hby d4_58) rfl rfl) ?_
          show Go p e below s n0 _ _ _ (T0.setTop (mkF m 59 #[rv rx, rv la, iv xk.toInt32, iv 1] [(.ref rx)]))
          refine Go.alen C X0 AXX (z := (1 : Int32)) rfl d4_59 ?_
          show Go p e below s n0 _ _ _ (T0.setTop (mkF m 60 #[rv rx, rv la, iv xk.toInt32, iv 1] [(.int 1)]))
          refine Go.st (fun _ => XS.iloadN X0.here C.hx rfl (hb C.hby d4_60) rfl) ?_
          show Go p e below s n0 _ _ _ (T0.setTop (mkF m 61 #[rv rx, rv la, iv xk.toInt32, iv 1] [(.int 1), (.int 1)]))
          refine Go.icmp_eq C X0 (pc' := 66) d4_61 (by decide) (by decide) (fun _ => ?_) (fun hc => absurd hc (by decide))
          show Go p e below s n0 _ _ _ (T0.setTop (mkF m 66 #[rv rx, rv la, iv xk.toInt32, iv 1] []))
          refine Go.st (fun _ => XS.iloadN X0.here C.hx rfl (hb C.hby d4_66) rfl) ?_
          show Go p e below s n0 _ _ _ (T0.setTop (mkF m 67 #[rv rx, rv la, iv xk.toInt32, iv 1] [(.int 1)]))
          refine Go.if_le C X0 (pc' := 84) d4_67 (by decide) (by decide) (fun hc => absurd hc (by decide)) (fun _ => ?_)
          show Go p e below s n0 _ _ _ (T0.setTop (mkF m 70 #[rv rx, rv la, iv xk.toInt32, iv 1] []))
          refine Go.st (fun _ => XS.aloadN X0.here C.hx rfl (hb C.hby d4_70) rfl rfl) ?_
          show Go p e below s n0 _ _ _ (T0.setTop (mkF m 71 #[rv rx, rv la, iv xk.toInt32, iv 1] [(.ref rx)]))
          refine Go.st (fun _ => XS.iconst X0.here C.hx rfl (hb C.hby d4_71)) ?_
          show Go p e below s n0 _ _ _ (T0.setTop (mkF m 72 #[rv rx, rv la, iv xk.toInt32, iv 1] [(.int 0), (.ref rx)]))
          refine Go.iaload C X0 AXX (by decide) rfl d4_72 ?_
          show Go p e below s n0 _ _ _ (T0.setTop (mkF m 73 #[rv rx, rv la, iv xk.toInt32, iv 1] [(.int 3)]))
          refine Go.st (fun _ => XS.aloadN X0.here C.hx rfl (hb C.hby d4_73) rfl rfl) ?_
          show Go p e below s n0 _ _ _ (T0.setTop (mkF m 74 #[rv rx, rv la, iv xk.toInt32, iv 1] [(.ref la), (.int 3)]))
          refine Go.st (fun _ => XS.iloadN X0.here C.hx rfl (hb C.hby d4_74) rfl) ?_
          show Go p e below s n0 _ _ _ (T0.setTop (mkF m 75 #[rv rx, rv la, iv xk.toInt32, iv 1] [(.int xk.toInt32), (.ref la), (.int 3)]))
          refine Go.st (fun _ => XS.iconst X0.here C.hx rfl (hb C.hby d4_75)) ?_
          show Go p e below s n0 _ _ _ (T0.setTop (mkF m 76 #[rv rx, rv la, iv xk.toInt32, iv 1] [(.int 0), (.int xk.toInt32), (.ref la), (.int 3)]))
          refine Go.callS C X0 (W := 1) (argsL := [(.ref la), (.int xk.toInt32), (.int 0)]) (rest := [(.int 3)]) (wd 36 rfl) (wd 37 rfl) (wd 34 rfl) (wd 38 rfl) (by decide) (con_kth0 l Z a0 hw n0 h0 X0.size la xk.toInt32 g0 g1 g2 g3 AL) (by decide) (by decide) rfl (lenOf pd_5 rfl) (Nat.le_of_ble_eq_true rfl) rfl d4_76 (by decide) (by decide) (fun T273 h273 v273 X273 hQ273 => ?_)
          obtain ⟨rfl, hh273⟩ := hQ273
          rw [hh273] at X273
          rw [show kthF g0.toInt32 g1.toInt32 g2.toInt32 g3.toInt32 xk.toInt32 0 = (3 : Int32) from by simp [kthF, hc10_262, hc22_263, hc35_264, hc48_265]]
          show Go p e below s n0 _ _ _ (T273.setTop (mkF m 79 #[rv rx, rv la, iv xk.toInt32, iv 1] [(.int 3), (.int 3)]))
          refine Go.icmp_eq C X273 (pc' := 84) d4_79 (by decide) (by decide) (fun _ => ?_) (fun hc => absurd hc (by decide))
          show Go p e below s n0 _ _ _ (T273.setTop (mkF m 84 #[rv rx, rv la, iv xk.toInt32, iv 1] []))
          refine Go.st (fun _ => XS.iloadN X273.here C.hx rfl (hb C.hby d4_84) rfl) ?_
          show Go p e below s n0 _ _ _ (T273.setTop (mkF m 85 #[rv rx, rv la, iv xk.toInt32, iv 1] [(.int 1)]))
          refine Go.st (fun _ => XS.iconst X273.here C.hx rfl (hb C.hby d4_85)) ?_
          show Go p e below s n0 _ _ _ (T273.setTop (mkF m 86 #[rv rx, rv la, iv xk.toInt32, iv 1] [(.int 1), (.int 1)]))
          refine Go.icmp_le C X273 (pc' := 103) d4_86 (by decide) (by decide) (fun _ => ?_) (fun hc => absurd hc (by decide))
          show Go p e below s n0 _ _ _ (T273.setTop (mkF m 103 #[rv rx, rv la, iv xk.toInt32, iv 1] []))
          refine Go.st (fun _ => XS.iloadN X273.here C.hx rfl (hb C.hby d4_103) rfl) ?_
          show Go p e below s n0 _ _ _ (T273.setTop (mkF m 104 #[rv rx, rv la, iv xk.toInt32, iv 1] [(.int 1)]))
          refine Go.st (fun _ => XS.iconst X273.here C.hx rfl (hb C.hby d4_104)) ?_
          show Go p e below s n0 _ _ _ (T273.setTop (mkF m 105 #[rv rx, rv la, iv xk.toInt32, iv 1] [(.int 2), (.int 1)]))
          refine Go.icmp_le C X273 (pc' := 122) d4_105 (by decide) (by decide) (fun _ => ?_) (fun hc => absurd hc (by decide))
          show Go p e below s n0 _ _ _ (T273.setTop (mkF m 122 #[rv rx, rv la, iv xk.toInt32, iv 1] []))
          refine Go.st (fun _ => XS.iloadN X273.here C.hx rfl (hb C.hby d4_122) rfl) ?_
          show Go p e below s n0 _ _ _ (T273.setTop (mkF m 123 #[rv rx, rv la, iv xk.toInt32, iv 1] [(.int 1)]))
          refine Go.st (fun _ => XS.iconst X273.here C.hx rfl (hb C.hby d4_123)) ?_
          show Go p e below s n0 _ _ _ (T273.setTop (mkF m 124 #[rv rx, rv la, iv xk.toInt32, iv 1] [(.int 3), (.int 1)]))
          refine Go.icmp_le C X273 (pc' := 141) d4_124 (by decide) (by decide) (fun _ => ?_) (fun hc => absurd hc (by decide))
          show Go p e below s n0 _ _ _ (T273.setTop (mkF m 141 #[rv rx, rv la, iv xk.toInt32, iv 1] []))
          refine Go.st (fun _ => XS.iconst X273.here C.hx rfl (hb C.hby d4_141)) ?_
          show Go p e below s n0 _ _ _ (T273.setTop (mkF m 142 #[rv rx, rv la, iv xk.toInt32, iv 1] [(.int 1)]))
          exact Go.retZ C X273 (by decide) d4_142 ⟨rfl, rfl⟩ (by decide) (by decide)
      · show Go p e below s n0 _ _ _ (T0.setTop (mkF m 38 #[rv rx, rv la, iv xk.toInt32, .unset] [(.int 0)]))
        refine Go.st (fun _ => XS.iconst X0.here C.hx rfl (hb C.hby d4_38)) ?_
        show Go p e below s n0 _ _ _ (T0.setTop (mkF m 39 #[rv rx, rv la, iv xk.toInt32, .unset] [(.int 1), (.int 0)]))
        refine Go.st (fun _ => XS.goto X0.here C.hx rfl (pc0 := 39) (pc' := 43) rfl (hb C.hby d4_39) (by decide) (by decide)) ?_
        show Go p e below s n0 _ _ _ (T0.setTop (mkF m 43 #[rv rx, rv la, iv xk.toInt32, .unset] [(.int 1), (.int 0)]))
        refine Go.st (fun _ => XS.iadd X0.here C.hx rfl (hb C.hby d4_43) rfl) ?_
        show Go p e below s n0 _ _ _ (T0.setTop (mkF m 44 #[rv rx, rv la, iv xk.toInt32, .unset] [(.int 1)]))
        refine Go.st (fun _ => XS.aloadN X0.here C.hx rfl (hb C.hby d4_44) rfl rfl) ?_
        show Go p e below s n0 _ _ _ (T0.setTop (mkF m 45 #[rv rx, rv la, iv xk.toInt32, .unset] [(.ref la), (.int 1)]))
        refine Go.st (fun _ => XS.iconst X0.here C.hx rfl (hb C.hby d4_45)) ?_
        show Go p e below s n0 _ _ _ (T0.setTop (mkF m 46 #[rv rx, rv la, iv xk.toInt32, .unset] [(.int 3), (.ref la), (.int 1)]))
        refine Go.iaload C X0 AL (by decide) rfl d4_46 ?_
        show Go p e below s n0 _ _ _ (T0.setTop (mkF m 47 #[rv rx, rv la, iv xk.toInt32, .unset] [(.int g3.toInt32), (.int 1)]))
        refine Go.st (fun _ => XS.iloadN X0.here C.hx rfl (hb C.hby d4_47) rfl) ?_
        show Go p e below s n0 _ _ _ (T0.setTop (mkF m 48 #[rv rx, rv la, iv xk.toInt32, .unset] [(.int xk.toInt32), (.int g3.toInt32), (.int 1)]))
        refine Go.icmp_ne C X0 (pc' := 55) d4_48 (by decide) (by decide) (fun hc48_278 => ?_) (fun hc48_278 => ?_)
        · show Go p e below s n0 _ _ _ (T0.setTop (mkF m 55 #[rv rx, rv la, iv xk.toInt32, .unset] [(.int 1)]))
          refine Go.st (fun _ => XS.iconst X0.here C.hx rfl (hb C.hby d4_55)) ?_
          show Go p e below s n0 _ _ _ (T0.setTop (mkF m 56 #[rv rx, rv la, iv xk.toInt32, .unset] [(.int 0), (.int 1)]))
          refine Go.st (fun _ => XS.iadd X0.here C.hx rfl (hb C.hby d4_56) rfl) ?_
          show Go p e below s n0 _ _ _ (T0.setTop (mkF m 57 #[rv rx, rv la, iv xk.toInt32, .unset] [(.int 1)]))
          refine Go.st (fun _ => XS.istoreN X0.here C.hx rfl (hb C.hby d4_57) rfl (l' := #[rv rx, rv la, iv xk.toInt32, iv 1]) rfl) ?_
          have p0 := eq_false (fun u : xk = g0 => hc10_262 ((eqI (by omega) (by omega)).mpr u.symm))
          have p1 := eq_false (fun u : xk = g1 => hc22_263 ((eqI (by omega) (by omega)).mpr u.symm))
          have p2 := eq_true ((eqI (by omega) (by omega)).mp hc35_264).symm
          have p3 := eq_false (fun u : xk = g3 => hc48_278 ((eqI (by omega) (by omega)).mpr u.symm))
          have RL : rowP (fsF g0 g1 g2 g3) tsI 4 4 xk = [(2 : Int32)] := by
            simp only [rowP, cnt, fsF0, fsF1, fsF2, fsF3, tsI0, tsI1, tsI2, tsI3, p0, p1, p2, p3, if_true, if_false]
            try rfl
          have AXX : AR Z h0 rx .int [(.int 2)] := by have u := AX; rw [RL] at u; exact u
          show Go p e below s n0 _ _ _ (T0.setTop (mkF m 58 #[rv rx, rv la, iv xk.toInt32, iv 1] []))
          refine Go.st (fun _ => XS.aloadN X0.here C.hx rfl (hb C.hby d4_58) rfl rfl) ?_
          show Go p e below s n0 _ _ _ (T0.setTop (mkF m 59 #[rv rx, rv la, iv xk.toInt32, iv 1] [(.ref rx)]))
          refine Go.alen C X0 AXX (z := (1 : Int32)) rfl d4_59 ?_
          show Go p e below s n0 _ _ _ (T0.setTop (mkF m 60 #[rv rx, rv la, iv xk.toInt32, iv 1] [(.int 1)]))
          refine Go.st (fun _ => XS.iloadN X0.here C.hx rfl (hb C.hby d4_60) rfl) ?_
          show Go p e below s n0 _ _ _ (T0.setTop (mkF m 61 #[rv rx, rv la, iv xk.toInt32, iv 1] [(.int 1), (.int 1)]))
          refine Go.icmp_eq C X0 (pc' := 66) d4_61 (by decide) (by decide) (fun _ => ?_) (fun hc => absurd hc (by decide))
          show Go p e below s n0 _ _ _ (T0.setTop (mkF m 66 #[rv rx, rv la, iv xk.toInt32, iv 1] []))
          refine Go.st (fun _ => XS.iloadN X0.here C.hx rfl (hb C.hby d4_66) rfl) ?_
          show Go p e below s n0 _ _ _ (T0.setTop (mkF m 67 #[rv rx, rv la, iv xk.toInt32, iv 1] [(.int 1)]))
          refine Go.if_le C X0 (pc' := 84) d4_67 (by decide) (by decide) (fun hc => absurd hc (by decide)) (fun _ => ?_)
          show Go p e below s n0 _ _ _ (T0.setTop (mkF m 70 #[rv rx, rv la, iv xk.toInt32, iv 1] []))
          refine Go.st (fun _ => XS.aloadN X0.here C.hx rfl (hb C.hby d4_70) rfl rfl) ?_
          show Go p e below s n0 _ _ _ (T0.setTop (mkF m 71 #[rv rx, rv la, iv xk.toInt32, iv 1] [(.ref rx)]))
          refine Go.st (fun _ => XS.iconst X0.here C.hx rfl (hb C.hby d4_71)) ?_
          show Go p e below s n0 _ _ _ (T0.setTop (mkF m 72 #[rv rx, rv la, iv xk.toInt32, iv 1] [(.int 0), (.ref rx)]))
          refine Go.iaload C X0 AXX (by decide) rfl d4_72 ?_
          show Go p e below s n0 _ _ _ (T0.setTop (mkF m 73 #[rv rx, rv la, iv xk.toInt32, iv 1] [(.int 2)]))
          refine Go.st (fun _ => XS.aloadN X0.here C.hx rfl (hb C.hby d4_73) rfl rfl) ?_
          show Go p e below s n0 _ _ _ (T0.setTop (mkF m 74 #[rv rx, rv la, iv xk.toInt32, iv 1] [(.ref la), (.int 2)]))
          refine Go.st (fun _ => XS.iloadN X0.here C.hx rfl (hb C.hby d4_74) rfl) ?_
          show Go p e below s n0 _ _ _ (T0.setTop (mkF m 75 #[rv rx, rv la, iv xk.toInt32, iv 1] [(.int xk.toInt32), (.ref la), (.int 2)]))
          refine Go.st (fun _ => XS.iconst X0.here C.hx rfl (hb C.hby d4_75)) ?_
          show Go p e below s n0 _ _ _ (T0.setTop (mkF m 76 #[rv rx, rv la, iv xk.toInt32, iv 1] [(.int 0), (.int xk.toInt32), (.ref la), (.int 2)]))
          refine Go.callS C X0 (W := 1) (argsL := [(.ref la), (.int xk.toInt32), (.int 0)]) (rest := [(.int 2)]) (wd 36 rfl) (wd 37 rfl) (wd 34 rfl) (wd 38 rfl) (by decide) (con_kth0 l Z a0 hw n0 h0 X0.size la xk.toInt32 g0 g1 g2 g3 AL) (by decide) (by decide) rfl (lenOf pd_5 rfl) (Nat.le_of_ble_eq_true rfl) rfl d4_76 (by decide) (by decide) (fun T281 h281 v281 X281 hQ281 => ?_)
          obtain ⟨rfl, hh281⟩ := hQ281
          rw [hh281] at X281
          rw [show kthF g0.toInt32 g1.toInt32 g2.toInt32 g3.toInt32 xk.toInt32 0 = (2 : Int32) from by simp [kthF, hc10_262, hc22_263, hc35_264, hc48_278]]
          show Go p e below s n0 _ _ _ (T281.setTop (mkF m 79 #[rv rx, rv la, iv xk.toInt32, iv 1] [(.int 2), (.int 2)]))
          refine Go.icmp_eq C X281 (pc' := 84) d4_79 (by decide) (by decide) (fun _ => ?_) (fun hc => absurd hc (by decide))
          show Go p e below s n0 _ _ _ (T281.setTop (mkF m 84 #[rv rx, rv la, iv xk.toInt32, iv 1] []))
          refine Go.st (fun _ => XS.iloadN X281.here C.hx rfl (hb C.hby d4_84) rfl) ?_
          show Go p e below s n0 _ _ _ (T281.setTop (mkF m 85 #[rv rx, rv la, iv xk.toInt32, iv 1] [(.int 1)]))
          refine Go.st (fun _ => XS.iconst X281.here C.hx rfl (hb C.hby d4_85)) ?_
          show Go p e below s n0 _ _ _ (T281.setTop (mkF m 86 #[rv rx, rv la, iv xk.toInt32, iv 1] [(.int 1), (.int 1)]))
          refine Go.icmp_le C X281 (pc' := 103) d4_86 (by decide) (by decide) (fun _ => ?_) (fun hc => absurd hc (by decide))
          show Go p e below s n0 _ _ _ (T281.setTop (mkF m 103 #[rv rx, rv la, iv xk.toInt32, iv 1] []))
          refine Go.st (fun _ => XS.iloadN X281.here C.hx rfl (hb C.hby d4_103) rfl) ?_
          show Go p e below s n0 _ _ _ (T281.setTop (mkF m 104 #[rv rx, rv la, iv xk.toInt32, iv 1] [(.int 1)]))
          refine Go.st (fun _ => XS.iconst X281.here C.hx rfl (hb C.hby d4_104)) ?_
          show Go p e below s n0 _ _ _ (T281.setTop (mkF m 105 #[rv rx, rv la, iv xk.toInt32, iv 1] [(.int 2), (.int 1)]))
          refine Go.icmp_le C X281 (pc' := 122) d4_105 (by decide) (by decide) (fun _ => ?_) (fun hc => absurd hc (by decide))
          show Go p e below s n0 _ _ _ (T281.setTop (mkF m 122 #[rv rx, rv la, iv xk.toInt32, iv 1] []))
          refine Go.st (fun _ => XS.iloadN X281.here C.hx rfl (hb C.hby d4_122) rfl) ?_
          show Go p e below s n0 _ _ _ (T281.setTop (mkF m 123 #[rv rx, rv la, iv xk.toInt32, iv 1] [(.int 1)]))
          refine Go.st (fun _ => XS.iconst X281.here C.hx rfl (hb C.hby d4_123)) ?_
          show Go p e below s n0 _ _ _ (T281.setTop (mkF m 124 #[rv rx, rv la, iv xk.toInt32, iv 1] [(.int 3), (.int 1)]))
          refine Go.icmp_le C X281 (pc' := 141) d4_124 (by decide) (by decide) (fun _ => ?_) (fun hc => absurd hc (by decide))
          show Go p e below s n0 _ _ _ (T281.setTop (mkF m 141 #[rv rx, rv la, iv xk.toInt32, iv 1] []))
          refine Go.st (fun _ => XS.iconst X281.here C.hx rfl (hb C.hby d4_141)) ?_
          show Go p e below s n0 _ _ _ (T281.setTop (mkF m 142 #[rv rx, rv la, iv xk.toInt32, iv 1] [(.int 1)]))
          exact Go.retZ C X281 (by decide) d4_142 ⟨rfl, rfl⟩ (by decide) (by decide)
        · show Go p e below s n0 _ _ _ (T0.setTop (mkF m 51 #[rv rx, rv la, iv xk.toInt32, .unset] [(.int 1)]))
          refine Go.st (fun _ => XS.iconst X0.here C.hx rfl (hb C.hby d4_51)) ?_
          show Go p e below s n0 _ _ _ (T0.setTop (mkF m 52 #[rv rx, rv la, iv xk.toInt32, .unset] [(.int 1), (.int 1)]))
          refine Go.st (fun _ => XS.goto X0.here C.hx rfl (pc0 := 52) (pc' := 56) rfl (hb C.hby d4_52) (by decide) (by decide)) ?_
          show Go p e below s n0 _ _ _ (T0.setTop (mkF m 56 #[rv rx, rv la, iv xk.toInt32, .unset] [(.int 1), (.int 1)]))
          refine Go.st (fun _ => XS.iadd X0.here C.hx rfl (hb C.hby d4_56) rfl) ?_
          show Go p e below s n0 _ _ _ (T0.setTop (mkF m 57 #[rv rx, rv la, iv xk.toInt32, .unset] [(.int 2)]))
          refine Go.st (fun _ => XS.istoreN X0.here C.hx rfl (hb C.hby d4_57) rfl (l' := #[rv rx, rv la, iv xk.toInt32, iv 2]) rfl) ?_
          have p0 := eq_false (fun u : xk = g0 => hc10_262 ((eqI (by omega) (by omega)).mpr u.symm))
          have p1 := eq_false (fun u : xk = g1 => hc22_263 ((eqI (by omega) (by omega)).mpr u.symm))
          have p2 := eq_true ((eqI (by omega) (by omega)).mp hc35_264).symm
          have p3 := eq_true ((eqI (by omega) (by omega)).mp hc48_278).symm
          have RL : rowP (fsF g0 g1 g2 g3) tsI 4 4 xk = [(2 : Int32), (3 : Int32)] := by
            simp only [rowP, cnt, fsF0, fsF1, fsF2, fsF3, tsI0, tsI1, tsI2, tsI3, p0, p1, p2, p3, if_true, if_false]
            try rfl
          have AXX : AR Z h0 rx .int [(.int 2), (.int 3)] := by have u := AX; rw [RL] at u; exact u
          show Go p e below s n0 _ _ _ (T0.setTop (mkF m 58 #[rv rx, rv la, iv xk.toInt32, iv 2] []))
          refine Go.st (fun _ => XS.aloadN X0.here C.hx rfl (hb C.hby d4_58) rfl rfl) ?_
          show Go p e below s n0 _ _ _ (T0.setTop (mkF m 59 #[rv rx, rv la, iv xk.toInt32, iv 2] [(.ref rx)]))
          refine Go.alen C X0 AXX (z := (2 : Int32)) rfl d4_59 ?_
          show Go p e below s n0 _ _ _ (T0.setTop (mkF m 60 #[rv rx, rv la, iv xk.toInt32, iv 2] [(.int 2)]))
          refine Go.st (fun _ => XS.iloadN X0.here C.hx rfl (hb C.hby d4_60) rfl) ?_
          show Go p e below s n0 _ _ _ (T0.setTop (mkF m 61 #[rv rx, rv la, iv xk.toInt32, iv 2] [(.int 2), (.int 2)]))
          refine Go.icmp_eq C X0 (pc' := 66) d4_61 (by decide) (by decide) (fun _ => ?_) (fun hc => absurd hc (by decide))
          show Go p e below s n0 _ _ _ (T0.setTop (mkF m 66 #[rv rx, rv la, iv xk.toInt32, iv 2] []))
          refine Go.st (fun _ => XS.iloadN X0.here C.hx rfl (hb C.hby d4_66) rfl) ?_
          show Go p e below s n0 _ _ _ (T0.setTop (mkF m 67 #[rv rx, rv la, iv xk.toInt32, iv 2] [(.int 2)]))
          refine Go.if_le C X0 (pc' := 84) d4_67 (by decide) (by decide) (fun hc => absurd hc (by decide)) (fun _ => ?_)
          show Go p e below s n0 _ _ _ (T0.setTop (mkF m 70 #[rv rx, rv la, iv xk.toInt32, iv 2] []))
          refine Go.st (fun _ => XS.aloadN X0.here C.hx rfl (hb C.hby d4_70) rfl rfl) ?_
          show Go p e below s n0 _ _ _ (T0.setTop (mkF m 71 #[rv rx, rv la, iv xk.toInt32, iv 2] [(.ref rx)]))
          refine Go.st (fun _ => XS.iconst X0.here C.hx rfl (hb C.hby d4_71)) ?_
          show Go p e below s n0 _ _ _ (T0.setTop (mkF m 72 #[rv rx, rv la, iv xk.toInt32, iv 2] [(.int 0), (.ref rx)]))
          refine Go.iaload C X0 AXX (by decide) rfl d4_72 ?_
          show Go p e below s n0 _ _ _ (T0.setTop (mkF m 73 #[rv rx, rv la, iv xk.toInt32, iv 2] [(.int 2)]))
          refine Go.st (fun _ => XS.aloadN X0.here C.hx rfl (hb C.hby d4_73) rfl rfl) ?_
          show Go p e below s n0 _ _ _ (T0.setTop (mkF m 74 #[rv rx, rv la, iv xk.toInt32, iv 2] [(.ref la), (.int 2)]))
          refine Go.st (fun _ => XS.iloadN X0.here C.hx rfl (hb C.hby d4_74) rfl) ?_
          show Go p e below s n0 _ _ _ (T0.setTop (mkF m 75 #[rv rx, rv la, iv xk.toInt32, iv 2] [(.int xk.toInt32), (.ref la), (.int 2)]))
          refine Go.st (fun _ => XS.iconst X0.here C.hx rfl (hb C.hby d4_75)) ?_
          show Go p e below s n0 _ _ _ (T0.setTop (mkF m 76 #[rv rx, rv la, iv xk.toInt32, iv 2] [(.int 0), (.int xk.toInt32), (.ref la), (.int 2)]))
          refine Go.callS C X0 (W := 1) (argsL := [(.ref la), (.int xk.toInt32), (.int 0)]) (rest := [(.int 2)]) (wd 36 rfl) (wd 37 rfl) (wd 34 rfl) (wd 38 rfl) (by decide) (con_kth0 l Z a0 hw n0 h0 X0.size la xk.toInt32 g0 g1 g2 g3 AL) (by decide) (by decide) rfl (lenOf pd_5 rfl) (Nat.le_of_ble_eq_true rfl) rfl d4_76 (by decide) (by decide) (fun T288 h288 v288 X288 hQ288 => ?_)
          obtain ⟨rfl, hh288⟩ := hQ288
          rw [hh288] at X288
          rw [show kthF g0.toInt32 g1.toInt32 g2.toInt32 g3.toInt32 xk.toInt32 0 = (2 : Int32) from by simp [kthF, hc10_262, hc22_263, hc35_264, hc48_278]]
          show Go p e below s n0 _ _ _ (T288.setTop (mkF m 79 #[rv rx, rv la, iv xk.toInt32, iv 2] [(.int 2), (.int 2)]))
          refine Go.icmp_eq C X288 (pc' := 84) d4_79 (by decide) (by decide) (fun _ => ?_) (fun hc => absurd hc (by decide))
          show Go p e below s n0 _ _ _ (T288.setTop (mkF m 84 #[rv rx, rv la, iv xk.toInt32, iv 2] []))
          refine Go.st (fun _ => XS.iloadN X288.here C.hx rfl (hb C.hby d4_84) rfl) ?_
          show Go p e below s n0 _ _ _ (T288.setTop (mkF m 85 #[rv rx, rv la, iv xk.toInt32, iv 2] [(.int 2)]))
          refine Go.st (fun _ => XS.iconst X288.here C.hx rfl (hb C.hby d4_85)) ?_
          show Go p e below s n0 _ _ _ (T288.setTop (mkF m 86 #[rv rx, rv la, iv xk.toInt32, iv 2] [(.int 1), (.int 2)]))
          refine Go.icmp_le C X288 (pc' := 103) d4_86 (by decide) (by decide) (fun hc => absurd hc (by decide)) (fun _ => ?_)
          show Go p e below s n0 _ _ _ (T288.setTop (mkF m 89 #[rv rx, rv la, iv xk.toInt32, iv 2] []))
          refine Go.st (fun _ => XS.aloadN X288.here C.hx rfl (hb C.hby d4_89) rfl rfl) ?_
          show Go p e below s n0 _ _ _ (T288.setTop (mkF m 90 #[rv rx, rv la, iv xk.toInt32, iv 2] [(.ref rx)]))
          refine Go.st (fun _ => XS.iconst X288.here C.hx rfl (hb C.hby d4_90)) ?_
          show Go p e below s n0 _ _ _ (T288.setTop (mkF m 91 #[rv rx, rv la, iv xk.toInt32, iv 2] [(.int 1), (.ref rx)]))
          refine Go.iaload C X288 AXX (by decide) rfl d4_91 ?_
          show Go p e below s n0 _ _ _ (T288.setTop (mkF m 92 #[rv rx, rv la, iv xk.toInt32, iv 2] [(.int 3)]))
          refine Go.st (fun _ => XS.aloadN X288.here C.hx rfl (hb C.hby d4_92) rfl rfl) ?_
          show Go p e below s n0 _ _ _ (T288.setTop (mkF m 93 #[rv rx, rv la, iv xk.toInt32, iv 2] [(.ref la), (.int 3)]))
          refine Go.st (fun _ => XS.iloadN X288.here C.hx rfl (hb C.hby d4_93) rfl) ?_
          show Go p e below s n0 _ _ _ (T288.setTop (mkF m 94 #[rv rx, rv la, iv xk.toInt32, iv 2] [(.int xk.toInt32), (.ref la), (.int 3)]))
          refine Go.st (fun _ => XS.iconst X288.here C.hx rfl (hb C.hby d4_94)) ?_
          show Go p e below s n0 _ _ _ (T288.setTop (mkF m 95 #[rv rx, rv la, iv xk.toInt32, iv 2] [(.int 1), (.int xk.toInt32), (.ref la), (.int 3)]))
          refine Go.callS C X288 (W := 1) (argsL := [(.ref la), (.int xk.toInt32), (.int 1)]) (rest := [(.int 3)]) (wd 36 rfl) (wd 37 rfl) (wd 34 rfl) (wd 38 rfl) (by decide) (con_kth1 l Z a0 hw n0 h0 X288.size la xk.toInt32 g0 g1 g2 g3 AL) (by decide) (by decide) rfl (lenOf pd_5 rfl) (Nat.le_of_ble_eq_true rfl) rfl d4_95 (by decide) (by decide) (fun T291 h291 v291 X291 hQ291 => ?_)
          obtain ⟨rfl, hh291⟩ := hQ291
          rw [hh291] at X291
          rw [show kthF g0.toInt32 g1.toInt32 g2.toInt32 g3.toInt32 xk.toInt32 1 = (3 : Int32) from by simp [kthF, hc10_262, hc22_263, hc35_264, hc48_278]]
          show Go p e below s n0 _ _ _ (T291.setTop (mkF m 98 #[rv rx, rv la, iv xk.toInt32, iv 2] [(.int 3), (.int 3)]))
          refine Go.icmp_eq C X291 (pc' := 103) d4_98 (by decide) (by decide) (fun _ => ?_) (fun hc => absurd hc (by decide))
          show Go p e below s n0 _ _ _ (T291.setTop (mkF m 103 #[rv rx, rv la, iv xk.toInt32, iv 2] []))
          refine Go.st (fun _ => XS.iloadN X291.here C.hx rfl (hb C.hby d4_103) rfl) ?_
          show Go p e below s n0 _ _ _ (T291.setTop (mkF m 104 #[rv rx, rv la, iv xk.toInt32, iv 2] [(.int 2)]))
          refine Go.st (fun _ => XS.iconst X291.here C.hx rfl (hb C.hby d4_104)) ?_
          show Go p e below s n0 _ _ _ (T291.setTop (mkF m 105 #[rv rx, rv la, iv xk.toInt32, iv 2] [(.int 2), (.int 2)]))
          refine Go.icmp_le C X291 (pc' := 122) d4_105 (by decide) (by decide) (fun _ => ?_) (fun hc => absurd hc (by decide))
          show Go p e below s n0 _ _ _ (T291.setTop (mkF m 122 #[rv rx, rv la, iv xk.toInt32, iv 2] []))
          refine Go.st (fun _ => XS.iloadN X291.here C.hx rfl (hb C.hby d4_122) rfl) ?_
          show Go p e below s n0 _ _ _ (T291.setTop (mkF m 123 #[rv rx, rv la, iv xk.toInt32, iv 2] [(.int 2)]))
          refine Go.st (fun _ => XS.iconst X291.here C.hx rfl (hb C.hby d4_123)) ?_
          show Go p e below s n0 _ _ _ (T291.setTop (mkF m 124 #[rv rx, rv la, iv xk.toInt32, iv 2] [(.int 3), (.int 2)]))
          refine Go.icmp_le C X291 (pc' := 141) d4_124 (by decide) (by decide) (fun _ => ?_) (fun hc => absurd hc (by decide))
          show Go p e below s n0 _ _ _ (T291.setTop (mkF m 141 #[rv rx, rv la, iv xk.toInt32, iv 2] []))
          refine Go.st (fun _ => XS.iconst X291.here C.hx rfl (hb C.hby d4_141)) ?_
          show Go p e below s n0 _ _ _ (T291.setTop (mkF m 142 #[rv rx, rv la, iv xk.toInt32, iv 2] [(.int 1)]))
          exact Go.retZ C X291 (by decide) d4_142 ⟨rfl, rfl⟩ (by decide) (by decide)
    · show Go p e below s n0 _ _ _ (T0.setTop (mkF m 25 #[rv rx, rv la, iv xk.toInt32, .unset] [(.int 0)]))
      refine Go.st (fun _ => XS.iconst X0.here C.hx rfl (hb C.hby d4_25)) ?_
      show Go p e below s n0 _ _ _ (T0.setTop (mkF m 26 #[rv rx, rv la, iv xk.toInt32, .unset] [(.int 1), (.int 0)]))
      refine Go.st (fun _ => XS.goto X0.here C.hx rfl (pc0 := 26) (pc' := 30) rfl (hb C.hby d4_26) (by decide) (by decide)) ?_
      show Go p e below s n0 _ _ _ (T0.setTop (mkF m 30 #[rv rx, rv la, iv xk.toInt32, .unset] [(.int 1), (.int 0)]))
      refine Go.st (fun _ => XS.iadd X0.here C.hx rfl (hb C.hby d4_30) rfl) ?_
      show Go p e below s n0 _ _ _ (T0.setTop (mkF m 31 #[rv rx, rv la, iv xk.toInt32, .unset] [(.int 1)]))
      refine Go.st (fun _ => XS.aloadN X0.here C.hx rfl (hb C.hby d4_31) rfl rfl) ?_
      show Go p e below s n0 _ _ _ (T0.setTop (mkF m 32 #[rv rx, rv la, iv xk.toInt32, .unset] [(.ref la), (.int 1)]))
      refine Go.st (fun _ => XS.iconst X0.here C.hx rfl (hb C.hby d4_32)) ?_
      show Go p e below s n0 _ _ _ (T0.setTop (mkF m 33 #[rv rx, rv la, iv xk.toInt32, .unset] [(.int 2), (.ref la), (.int 1)]))
      refine Go.iaload C X0 AL (by decide) rfl d4_33 ?_
      show Go p e below s n0 _ _ _ (T0.setTop (mkF m 34 #[rv rx, rv la, iv xk.toInt32, .unset] [(.int g2.toInt32), (.int 1)]))
      refine Go.st (fun _ => XS.iloadN X0.here C.hx rfl (hb C.hby d4_34) rfl) ?_
      show Go p e below s n0 _ _ _ (T0.setTop (mkF m 35 #[rv rx, rv la, iv xk.toInt32, .unset] [(.int xk.toInt32), (.int g2.toInt32), (.int 1)]))
      refine Go.icmp_ne C X0 (pc' := 42) d4_35 (by decide) (by decide) (fun hc35_295 => ?_) (fun hc35_295 => ?_)
      · show Go p e below s n0 _ _ _ (T0.setTop (mkF m 42 #[rv rx, rv la, iv xk.toInt32, .unset] [(.int 1)]))
        refine Go.st (fun _ => XS.iconst X0.here C.hx rfl (hb C.hby d4_42)) ?_
        show Go p e below s n0 _ _ _ (T0.setTop (mkF m 43 #[rv rx, rv la, iv xk.toInt32, .unset] [(.int 0), (.int 1)]))
        refine Go.st (fun _ => XS.iadd X0.here C.hx rfl (hb C.hby d4_43) rfl) ?_
        show Go p e below s n0 _ _ _ (T0.setTop (mkF m 44 #[rv rx, rv la, iv xk.toInt32, .unset] [(.int 1)]))
        refine Go.st (fun _ => XS.aloadN X0.here C.hx rfl (hb C.hby d4_44) rfl rfl) ?_
        show Go p e below s n0 _ _ _ (T0.setTop (mkF m 45 #[rv rx, rv la, iv xk.toInt32, .unset] [(.ref la), (.int 1)]))
        refine Go.st (fun _ => XS.iconst X0.here C.hx rfl (hb C.hby d4_45)) ?_
        show Go p e below s n0 _ _ _ (T0.setTop (mkF m 46 #[rv rx, rv la, iv xk.toInt32, .unset] [(.int 3), (.ref la), (.int 1)]))
        refine Go.iaload C X0 AL (by decide) rfl d4_46 ?_
        show Go p e below s n0 _ _ _ (T0.setTop (mkF m 47 #[rv rx, rv la, iv xk.toInt32, .unset] [(.int g3.toInt32), (.int 1)]))
        refine Go.st (fun _ => XS.iloadN X0.here C.hx rfl (hb C.hby d4_47) rfl) ?_
        show Go p e below s n0 _ _ _ (T0.setTop (mkF m 48 #[rv rx, rv la, iv xk.toInt32, .unset] [(.int xk.toInt32), (.int g3.toInt32), (.int 1)]))
        refine Go.icmp_ne C X0 (pc' := 55) d4_48 (by decide) (by decide) (fun hc48_296 => ?_) (fun hc48_296 => ?_)
        · show Go p e below s n0 _ _ _ (T0.setTop (mkF m 55 #[rv rx, rv la, iv xk.toInt32, .unset] [(.int 1)]))
          refine Go.st (fun _ => XS.iconst X0.here C.hx rfl (hb C.hby d4_55)) ?_
          show Go p e below s n0 _ _ _ (T0.setTop (mkF m 56 #[rv rx, rv la, iv xk.toInt32, .unset] [(.int 0), (.int 1)]))
          refine Go.st (fun _ => XS.iadd X0.here C.hx rfl (hb C.hby d4_56) rfl) ?_
          show Go p e below s n0 _ _ _ (T0.setTop (mkF m 57 #[rv rx, rv la, iv xk.toInt32, .unset] [(.int 1)]))
          refine Go.st (fun _ => XS.istoreN X0.here C.hx rfl (hb C.hby d4_57) rfl (l' := #[rv rx, rv la, iv xk.toInt32, iv 1]) rfl) ?_
          have p0 := eq_false (fun u : xk = g0 => hc10_262 ((eqI (by omega) (by omega)).mpr u.symm))
          have p1 := eq_true ((eqI (by omega) (by omega)).mp hc22_263).symm
          have p2 := eq_false (fun u : xk = g2 => hc35_295 ((eqI (by omega) (by omega)).mpr u.symm))
          have p3 := eq_false (fun u : xk = g3 => hc48_296 ((eqI (by omega) (by omega)).mpr u.symm))
          have RL : rowP (fsF g0 g1 g2 g3) tsI 4 4 xk = [(1 : Int32)] := by
            simp only [rowP, cnt, fsF0, fsF1, fsF2, fsF3, tsI0, tsI1, tsI2, tsI3, p0, p1, p2, p3, if_true, if_false]
            try rfl
          have AXX : AR Z h0 rx .int [(.int 1)] := by have u := AX; rw [RL] at u; exact u
          show Go p e below s n0 _ _ _ (T0.setTop (mkF m 58 #[rv rx, rv la, iv xk.toInt32, iv 1] []))
          refine Go.st (fun _ => XS.aloadN X0.here C.hx rfl (hb C.hby d4_58) rfl rfl) ?_
          show Go p e below s n0 _ _ _ (T0.setTop (mkF m 59 #[rv rx, rv la, iv xk.toInt32, iv 1] [(.ref rx)]))
          refine Go.alen C X0 AXX (z := (1 : Int32)) rfl d4_59 ?_
          show Go p e below s n0 _ _ _ (T0.setTop (mkF m 60 #[rv rx, rv la, iv xk.toInt32, iv 1] [(.int 1)]))
          refine Go.st (fun _ => XS.iloadN X0.here C.hx rfl (hb C.hby d4_60) rfl) ?_
          show Go p e below s n0 _ _ _ (T0.setTop (mkF m 61 #[rv rx, rv la, iv xk.toInt32, iv 1] [(.int 1), (.int 1)]))
          refine Go.icmp_eq C X0 (pc' := 66) d4_61 (by decide) (by decide) (fun _ => ?_) (fun hc => absurd hc (by decide))
          show Go p e below s n0 _ _ _ (T0.setTop (mkF m 66 #[rv rx, rv la, iv xk.toInt32, iv 1] []))
          refine Go.st (fun _ => XS.iloadN X0.here C.hx rfl (hb C.hby d4_66) rfl) ?_
          show Go p e below s n0 _ _ _ (T0.setTop (mkF m 67 #[rv rx, rv la, iv xk.toInt32, iv 1] [(.int 1)]))
          refine Go.if_le C X0 (pc' := 84) d4_67 (by decide) (by decide) (fun hc => absurd hc (by decide)) (fun _ => ?_)
          show Go p e below s n0 _ _ _ (T0.setTop (mkF m 70 #[rv rx, rv la, iv xk.toInt32, iv 1] []))
          refine Go.st (fun _ => XS.aloadN X0.here C.hx rfl (hb C.hby d4_70) rfl rfl) ?_
          show Go p e below s n0 _ _ _ (T0.setTop (mkF m 71 #[rv rx, rv la, iv xk.toInt32, iv 1] [(.ref rx)]))
          refine Go.st (fun _ => XS.iconst X0.here C.hx rfl (hb C.hby d4_71)) ?_
          show Go p e below s n0 _ _ _ (T0.setTop (mkF m 72 #[rv rx, rv la, iv xk.toInt32, iv 1] [(.int 0), (.ref rx)]))
          refine Go.iaload C X0 AXX (by decide) rfl d4_72 ?_
          show Go p e below s n0 _ _ _ (T0.setTop (mkF m 73 #[rv rx, rv la, iv xk.toInt32, iv 1] [(.int 1)]))
          refine Go.st (fun _ => XS.aloadN X0.here C.hx rfl (hb C.hby d4_73) rfl rfl) ?_
          show Go p e below s n0 _ _ _ (T0.setTop (mkF m 74 #[rv rx, rv la, iv xk.toInt32, iv 1] [(.ref la), (.int 1)]))
          refine Go.st (fun _ => XS.iloadN X0.here C.hx rfl (hb C.hby d4_74) rfl) ?_
          show Go p e below s n0 _ _ _ (T0.setTop (mkF m 75 #[rv rx, rv la, iv xk.toInt32, iv 1] [(.int xk.toInt32), (.ref la), (.int 1)]))
          refine Go.st (fun _ => XS.iconst X0.here C.hx rfl (hb C.hby d4_75)) ?_
          show Go p e below s n0 _ _ _ (T0.setTop (mkF m 76 #[rv rx, rv la, iv xk.toInt32, iv 1] [(.int 0), (.int xk.toInt32), (.ref la), (.int 1)]))
          refine Go.callS C X0 (W := 1) (argsL := [(.ref la), (.int xk.toInt32), (.int 0)]) (rest := [(.int 1)]) (wd 36 rfl) (wd 37 rfl) (wd 34 rfl) (wd 38 rfl) (by decide) (con_kth0 l Z a0 hw n0 h0 X0.size la xk.toInt32 g0 g1 g2 g3 AL) (by decide) (by decide) rfl (lenOf pd_5 rfl) (Nat.le_of_ble_eq_true rfl) rfl d4_76 (by decide) (by decide) (fun T299 h299 v299 X299 hQ299 => ?_)
          obtain ⟨rfl, hh299⟩ := hQ299
          rw [hh299] at X299
          rw [show kthF g0.toInt32 g1.toInt32 g2.toInt32 g3.toInt32 xk.toInt32 0 = (1 : Int32) from by simp [kthF, hc10_262, hc22_263, hc35_295, hc48_296]]
          show Go p e below s n0 _ _ _ (T299.setTop (mkF m 79 #[rv rx, rv la, iv xk.toInt32, iv 1] [(.int 1), (.int 1)]))
          refine Go.icmp_eq C X299 (pc' := 84) d4_79 (by decide) (by decide) (fun _ => ?_) (fun hc => absurd hc (by decide))
          show Go p e below s n0 _ _ _ (T299.setTop (mkF m 84 #[rv rx, rv la, iv xk.toInt32, iv 1] []))
          refine Go.st (fun _ => XS.iloadN X299.here C.hx rfl (hb C.hby d4_84) rfl) ?_
          show Go p e below s n0 _ _ _ (T299.setTop (mkF m 85 #[rv rx, rv la, iv xk.toInt32, iv 1] [(.int 1)]))
          refine Go.st (fun _ => XS.iconst X299.here C.hx rfl (hb C.hby d4_85)) ?_
          show Go p e below s n0 _ _ _ (T299.setTop (mkF m 86 #[rv rx, rv la, iv xk.toInt32, iv 1] [(.int 1), (.int 1)]))
          refine Go.icmp_le C X299 (pc' := 103) d4_86 (by decide) (by decide) (fun _ => ?_) (fun hc => absurd hc (by decide))
          show Go p e below s n0 _ _ _ (T299.setTop (mkF m 103 #[rv rx, rv la, iv xk.toInt32, iv 1] []))
          refine Go.st (fun _ => XS.iloadN X299.here C.hx rfl (hb C.hby d4_103) rfl) ?_
          show Go p e below s n0 _ _ _ (T299.setTop (mkF m 104 #[rv rx, rv la, iv xk.toInt32, iv 1] [(.int 1)]))
          refine Go.st (fun _ => XS.iconst X299.here C.hx rfl (hb C.hby d4_104)) ?_
          show Go p e below s n0 _ _ _ (T299.setTop (mkF m 105 #[rv rx, rv la, iv xk.toInt32, iv 1] [(.int 2), (.int 1)]))
          refine Go.icmp_le C X299 (pc' := 122) d4_105 (by decide) (by decide) (fun _ => ?_) (fun hc => absurd hc (by decide))
          show Go p e below s n0 _ _ _ (T299.setTop (mkF m 122 #[rv rx, rv la, iv xk.toInt32, iv 1] []))
          refine Go.st (fun _ => XS.iloadN X299.here C.hx rfl (hb C.hby d4_122) rfl) ?_
          show Go p e below s n0 _ _ _ (T299.setTop (mkF m 123 #[rv rx, rv la, iv xk.toInt32, iv 1] [(.int 1)]))
          refine Go.st (fun _ => XS.iconst X299.here C.hx rfl (hb C.hby d4_123)) ?_
          show Go p e below s n0 _ _ _ (T299.setTop (mkF m 124 #[rv rx, rv la, iv xk.toInt32, iv 1] [(.int 3), (.int 1)]))
          refine Go.icmp_le C X299 (pc' := 141) d4_124 (by decide) (by decide) (fun _ => ?_) (fun hc => absurd hc (by decide))
          show Go p e below s n0 _ _ _ (T299.setTop (mkF m 141 #[rv rx, rv la, iv xk.toInt32, iv 1] []))
          refine Go.st (fun _ => XS.iconst X299.here C.hx rfl (hb C.hby d4_141)) ?_
          show Go p e below s n0 _ _ _ (T299.setTop (mkF m 142 #[rv rx, rv la, iv xk.toInt32, iv 1] [(.int 1)]))
          exact Go.retZ C X299 (by decide) d4_142 ⟨rfl, rfl⟩ (by decide) (by decide)
        · show Go p e below s n0 _ _ _ (T0.setTop (mkF m 51 #[rv rx, rv la, iv xk.toInt32, .unset] [(.int 1)]))
          refine Go.st (fun _ => XS.iconst X0.here C.hx rfl (hb C.hby d4_51)) ?_
          show Go p e below s n0 _ _ _ (T0.setTop (mkF m 52 #[rv rx, rv la, iv xk.toInt32, .unset] [(.int 1), (.int 1)]))
          refine Go.st (fun _ => XS.goto X0.here C.hx rfl (pc0 := 52) (pc' := 56) rfl (hb C.hby d4_52) (by decide) (by decide)) ?_
          show Go p e below s n0 _ _ _ (T0.setTop (mkF m 56 #[rv rx, rv la, iv xk.toInt32, .unset] [(.int 1), (.int 1)]))
          refine Go.st (fun _ => XS.iadd X0.here C.hx rfl (hb C.hby d4_56) rfl) ?_
          show Go p e below s n0 _ _ _ (T0.setTop (mkF m 57 #[rv rx, rv la, iv xk.toInt32, .unset] [(.int 2)]))
          refine Go.st (fun _ => XS.istoreN X0.here C.hx rfl (hb C.hby d4_57) rfl (l' := #[rv rx, rv la, iv xk.toInt32, iv 2]) rfl) ?_
          have p0 := eq_false (fun u : xk = g0 => hc10_262 ((eqI (by omega) (by omega)).mpr u.symm))
          have p1 := eq_true ((eqI (by omega) (by omega)).mp hc22_263).symm
          have p2 := eq_false (fun u : xk = g2 => hc35_295 ((eqI (by omega) (by omega)).mpr u.symm))
          have p3 := eq_true ((eqI (by omega) (by omega)).mp hc48_296).symm
          have RL : rowP (fsF g0 g1 g2 g3) tsI 4 4 xk = [(1 : Int32), (3 : Int32)] := by
            simp only [rowP, cnt, fsF0, fsF1, fsF2, fsF3, tsI0, tsI1, tsI2, tsI3, p0, p1, p2, p3, if_true, if_false]
            try rfl
          have AXX : AR Z h0 rx .int [(.int 1), (.int 3)] := by have u := AX; rw [RL] at u; exact u
          show Go p e below s n0 _ _ _ (T0.setTop (mkF m 58 #[rv rx, rv la, iv xk.toInt32, iv 2] []))
          refine Go.st (fun _ => XS.aloadN X0.here C.hx rfl (hb C.hby d4_58) rfl rfl) ?_
          show Go p e below s n0 _ _ _ (T0.setTop (mkF m 59 #[rv rx, rv la, iv xk.toInt32, iv 2] [(.ref rx)]))
          refine Go.alen C X0 AXX (z := (2 : Int32)) rfl d4_59 ?_
          show Go p e below s n0 _ _ _ (T0.setTop (mkF m 60 #[rv rx, rv la, iv xk.toInt32, iv 2] [(.int 2)]))
          refine Go.st (fun _ => XS.iloadN X0.here C.hx rfl (hb C.hby d4_60) rfl) ?_
          show Go p e below s n0 _ _ _ (T0.setTop (mkF m 61 #[rv rx, rv la, iv xk.toInt32, iv 2] [(.int 2), (.int 2)]))
          refine Go.icmp_eq C X0 (pc' := 66) d4_61 (by decide) (by decide) (fun _ => ?_) (fun hc => absurd hc (by decide))
          show Go p e below s n0 _ _ _ (T0.setTop (mkF m 66 #[rv rx, rv la, iv xk.toInt32, iv 2] []))
          refine Go.st (fun _ => XS.iloadN X0.here C.hx rfl (hb C.hby d4_66) rfl) ?_
          show Go p e below s n0 _ _ _ (T0.setTop (mkF m 67 #[rv rx, rv la, iv xk.toInt32, iv 2] [(.int 2)]))
          refine Go.if_le C X0 (pc' := 84) d4_67 (by decide) (by decide) (fun hc => absurd hc (by decide)) (fun _ => ?_)
          show Go p e below s n0 _ _ _ (T0.setTop (mkF m 70 #[rv rx, rv la, iv xk.toInt32, iv 2] []))
          refine Go.st (fun _ => XS.aloadN X0.here C.hx rfl (hb C.hby d4_70) rfl rfl) ?_
          show Go p e below s n0 _ _ _ (T0.setTop (mkF m 71 #[rv rx, rv la, iv xk.toInt32, iv 2] [(.ref rx)]))
          refine Go.st (fun _ => XS.iconst X0.here C.hx rfl (hb C.hby d4_71)) ?_
          show Go p e below s n0 _ _ _ (T0.setTop (mkF m 72 #[rv rx, rv la, iv xk.toInt32, iv 2] [(.int 0), (.ref rx)]))
          refine Go.iaload C X0 AXX (by decide) rfl d4_72 ?_
          show Go p e below s n0 _ _ _ (T0.setTop (mkF m 73 #[rv rx, rv la, iv xk.toInt32, iv 2] [(.int 1)]))
          refine Go.st (fun _ => XS.aloadN X0.here C.hx rfl (hb C.hby d4_73) rfl rfl) ?_
          show Go p e below s n0 _ _ _ (T0.setTop (mkF m 74 #[rv rx, rv la, iv xk.toInt32, iv 2] [(.ref la), (.int 1)]))
          refine Go.st (fun _ => XS.iloadN X0.here C.hx rfl (hb C.hby d4_74) rfl) ?_
          show Go p e below s n0 _ _ _ (T0.setTop (mkF m 75 #[rv rx, rv la, iv xk.toInt32, iv 2] [(.int xk.toInt32), (.ref la), (.int 1)]))
          refine Go.st (fun _ => XS.iconst X0.here C.hx rfl (hb C.hby d4_75)) ?_
          show Go p e below s n0 _ _ _ (T0.setTop (mkF m 76 #[rv rx, rv la, iv xk.toInt32, iv 2] [(.int 0), (.int xk.toInt32), (.ref la), (.int 1)]))
          refine Go.callS C X0 (W := 1) (argsL := [(.ref la), (.int xk.toInt32), (.int 0)]) (rest := [(.int 1)]) (wd 36 rfl) (wd 37 rfl) (wd 34 rfl) (wd 38 rfl) (by decide) (con_kth0 l Z a0 hw n0 h0 X0.size la xk.toInt32 g0 g1 g2 g3 AL) (by decide) (by decide) rfl (lenOf pd_5 rfl) (Nat.le_of_ble_eq_true rfl) rfl d4_76 (by decide) (by decide) (fun T306 h306 v306 X306 hQ306 => ?_)
          obtain ⟨rfl, hh306⟩ := hQ306
          rw [hh306] at X306
          rw [show kthF g0.toInt32 g1.toInt32 g2.toInt32 g3.toInt32 xk.toInt32 0 = (1 : Int32) from by simp [kthF, hc10_262, hc22_263, hc35_295, hc48_296]]
          show Go p e below s n0 _ _ _ (T306.setTop (mkF m 79 #[rv rx, rv la, iv xk.toInt32, iv 2] [(.int 1), (.int 1)]))
          refine Go.icmp_eq C X306 (pc' := 84) d4_79 (by decide) (by decide) (fun _ => ?_) (fun hc => absurd hc (by decide))
          show Go p e below s n0 _ _ _ (T306.setTop (mkF m 84 #[rv rx, rv la, iv xk.toInt32, iv 2] []))
          refine Go.st (fun _ => XS.iloadN X306.here C.hx rfl (hb C.hby d4_84) rfl) ?_
          show Go p e below s n0 _ _ _ (T306.setTop (mkF m 85 #[rv rx, rv la, iv xk.toInt32, iv 2] [(.int 2)]))
          refine Go.st (fun _ => XS.iconst X306.here C.hx rfl (hb C.hby d4_85)) ?_
          show Go p e below s n0 _ _ _ (T306.setTop (mkF m 86 #[rv rx, rv la, iv xk.toInt32, iv 2] [(.int 1), (.int 2)]))
          refine Go.icmp_le C X306 (pc' := 103) d4_86 (by decide) (by decide) (fun hc => absurd hc (by decide)) (fun _ => ?_)
          show Go p e below s n0 _ _ _ (T306.setTop (mkF m 89 #[rv rx, rv la, iv xk.toInt32, iv 2] []))
          refine Go.st (fun _ => XS.aloadN X306.here C.hx rfl (hb C.hby d4_89) rfl rfl) ?_
          show Go p e below s n0 _ _ _ (T306.setTop (mkF m 90 #[rv rx, rv la, iv xk.toInt32, iv 2] [(.ref rx)]))
          refine Go.st (fun _ => XS.iconst X306.here C.hx rfl (hb C.hby d4_90)) ?_
          show Go p e below s n0 _ _ _ (T306.setTop (mkF m 91 #[rv rx, rv la, iv xk.toInt32, iv 2] [(.int 1), (.ref rx)]))
          refine Go.iaload C X306 AXX (by decide) rfl d4_91 ?_
          show Go p e below s n0 _ _ _ (T306.setTop (mkF m 92 #[rv rx, rv la, iv xk.toInt32, iv 2] [(.int 3)]))
          refine Go.st (fun _ => XS.aloadN X306.here C.hx rfl (hb C.hby d4_92) rfl rfl) ?_
          show Go p e below s n0 _ _ _ (T306.setTop (mkF m 93 #[rv rx, rv la, iv xk.toInt32, iv 2] [(.ref la), (.int 3)]))
          refine Go.st (fun _ => XS.iloadN X306.here C.hx rfl (hb C.hby d4_93) rfl) ?_
          show Go p e below s n0 _ _ _ (T306.setTop (mkF m 94 #[rv rx, rv la, iv xk.toInt32, iv 2] [(.int xk.toInt32), (.ref la), (.int 3)]))
          refine Go.st (fun _ => XS.iconst X306.here C.hx rfl (hb C.hby d4_94)) ?_
          show Go p e below s n0 _ _ _ (T306.setTop (mkF m 95 #[rv rx, rv la, iv xk.toInt32, iv 2] [(.int 1), (.int xk.toInt32), (.ref la), (.int 3)]))
          refine Go.callS C X306 (W := 1) (argsL := [(.ref la), (.int xk.toInt32), (.int 1)]) (rest := [(.int 3)]) (wd 36 rfl) (wd 37 rfl) (wd 34 rfl) (wd 38 rfl) (by decide) (con_kth1 l Z a0 hw n0 h0 X306.size la xk.toInt32 g0 g1 g2 g3 AL) (by decide) (by decide) rfl (lenOf pd_5 rfl) (Nat.le_of_ble_eq_true rfl) rfl d4_95 (by decide) (by decide) (fun T309 h309 v309 X309 hQ309 => ?_)
          obtain ⟨rfl, hh309⟩ := hQ309
          rw [hh309] at X309
          rw [show kthF g0.toInt32 g1.toInt32 g2.toInt32 g3.toInt32 xk.toInt32 1 = (3 : Int32) from by simp [kthF, hc10_262, hc22_263, hc35_295, hc48_296]]
          show Go p e below s n0 _ _ _ (T309.setTop (mkF m 98 #[rv rx, rv la, iv xk.toInt32, iv 2] [(.int 3), (.int 3)]))
          refine Go.icmp_eq C X309 (pc' := 103) d4_98 (by decide) (by decide) (fun _ => ?_) (fun hc => absurd hc (by decide))
          show Go p e below s n0 _ _ _ (T309.setTop (mkF m 103 #[rv rx, rv la, iv xk.toInt32, iv 2] []))
          refine Go.st (fun _ => XS.iloadN X309.here C.hx rfl (hb C.hby d4_103) rfl) ?_
          show Go p e below s n0 _ _ _ (T309.setTop (mkF m 104 #[rv rx, rv la, iv xk.toInt32, iv 2] [(.int 2)]))
          refine Go.st (fun _ => XS.iconst X309.here C.hx rfl (hb C.hby d4_104)) ?_
          show Go p e below s n0 _ _ _ (T309.setTop (mkF m 105 #[rv rx, rv la, iv xk.toInt32, iv 2] [(.int 2), (.int 2)]))
          refine Go.icmp_le C X309 (pc' := 122) d4_105 (by decide) (by decide) (fun _ => ?_) (fun hc => absurd hc (by decide))
          show Go p e below s n0 _ _ _ (T309.setTop (mkF m 122 #[rv rx, rv la, iv xk.toInt32, iv 2] []))
          refine Go.st (fun _ => XS.iloadN X309.here C.hx rfl (hb C.hby d4_122) rfl) ?_
          show Go p e below s n0 _ _ _ (T309.setTop (mkF m 123 #[rv rx, rv la, iv xk.toInt32, iv 2] [(.int 2)]))
          refine Go.st (fun _ => XS.iconst X309.here C.hx rfl (hb C.hby d4_123)) ?_
          show Go p e below s n0 _ _ _ (T309.setTop (mkF m 124 #[rv rx, rv la, iv xk.toInt32, iv 2] [(.int 3), (.int 2)]))
          refine Go.icmp_le C X309 (pc' := 141) d4_124 (by decide) (by decide) (fun _ => ?_) (fun hc => absurd hc (by decide))
          show Go p e below s n0 _ _ _ (T309.setTop (mkF m 141 #[rv rx, rv la, iv xk.toInt32, iv 2] []))
          refine Go.st (fun _ => XS.iconst X309.here C.hx rfl (hb C.hby d4_141)) ?_
          show Go p e below s n0 _ _ _ (T309.setTop (mkF m 142 #[rv rx, rv la, iv xk.toInt32, iv 2] [(.int 1)]))
          exact Go.retZ C X309 (by decide) d4_142 ⟨rfl, rfl⟩ (by decide) (by decide)
      · show Go p e below s n0 _ _ _ (T0.setTop (mkF m 38 #[rv rx, rv la, iv xk.toInt32, .unset] [(.int 1)]))
        refine Go.st (fun _ => XS.iconst X0.here C.hx rfl (hb C.hby d4_38)) ?_
        show Go p e below s n0 _ _ _ (T0.setTop (mkF m 39 #[rv rx, rv la, iv xk.toInt32, .unset] [(.int 1), (.int 1)]))
        refine Go.st (fun _ => XS.goto X0.here C.hx rfl (pc0 := 39) (pc' := 43) rfl (hb C.hby d4_39) (by decide) (by decide)) ?_
        show Go p e below s n0 _ _ _ (T0.setTop (mkF m 43 #[rv rx, rv la, iv xk.toInt32, .unset] [(.int 1), (.int 1)]))
        refine Go.st (fun _ => XS.iadd X0.here C.hx rfl (hb C.hby d4_43) rfl) ?_
        show Go p e below s n0 _ _ _ (T0.setTop (mkF m 44 #[rv rx, rv la, iv xk.toInt32, .unset] [(.int 2)]))
        refine Go.st (fun _ => XS.aloadN X0.here C.hx rfl (hb C.hby d4_44) rfl rfl) ?_
        show Go p e below s n0 _ _ _ (T0.setTop (mkF m 45 #[rv rx, rv la, iv xk.toInt32, .unset] [(.ref la), (.int 2)]))
        refine Go.st (fun _ => XS.iconst X0.here C.hx rfl (hb C.hby d4_45)) ?_
        show Go p e below s n0 _ _ _ (T0.setTop (mkF m 46 #[rv rx, rv la, iv xk.toInt32, .unset] [(.int 3), (.ref la), (.int 2)]))
        refine Go.iaload C X0 AL (by decide) rfl d4_46 ?_
        show Go p e below s n0 _ _ _ (T0.setTop (mkF m 47 #[rv rx, rv la, iv xk.toInt32, .unset] [(.int g3.toInt32), (.int 2)]))
        refine Go.st (fun _ => XS.iloadN X0.here C.hx rfl (hb C.hby d4_47) rfl) ?_
        show Go p e below s n0 _ _ _ (T0.setTop (mkF m 48 #[rv rx, rv la, iv xk.toInt32, .unset] [(.int xk.toInt32), (.int g3.toInt32), (.int 2)]))
        refine Go.icmp_ne C X0 (pc' := 55) d4_48 (by decide) (by decide) (fun hc48_313 => ?_) (fun hc48_313 => ?_)
        · show Go p e below s n0 _ _ _ (T0.setTop (mkF m 55 #[rv rx, rv la, iv xk.toInt32, .unset] [(.int 2)]))
          refine Go.st (fun _ => XS.iconst X0.here C.hx rfl (hb C.hby d4_55)) ?_
          show Go p e below s n0 _ _ _ (T0.setTop (mkF m 56 #[rv rx, rv la, iv xk.toInt32, .unset] [(.int 0), (.int 2)]))
          refine Go.st (fun _ => XS.iadd X0.here C.hx rfl (hb C.hby d4_56) rfl) ?_
          show Go p e below s n0 _ _ _ (T0.setTop (mkF m 57 #[rv rx, rv la, iv xk.toInt32, .unset] [(.int 2)]))
          refine Go.st (fun _ => XS.istoreN X0.here C.hx rfl (hb C.hby d4_57) rfl (l' := #[rv rx, rv la, iv xk.toInt32, iv 2]) rfl) ?_
          have p0 := eq_false (fun u : xk = g0 => hc10_262 ((eqI (by omega) (by omega)).mpr u.symm))
          have p1 := eq_true ((eqI (by omega) (by omega)).mp hc22_263).symm
          have p2 := eq_true ((eqI (by omega) (by omega)).mp hc35_295).symm
          have p3 := eq_false (fun u : xk = g3 => hc48_313 ((eqI (by omega) (by omega)).mpr u.symm))
          have RL : rowP (fsF g0 g1 g2 g3) tsI 4 4 xk = [(1 : Int32), (2 : Int32)] := by
            simp only [rowP, cnt, fsF0, fsF1, fsF2, fsF3, tsI0, tsI1, tsI2, tsI3, p0, p1, p2, p3, if_true, if_false]
            try rfl
          have AXX : AR Z h0 rx .int [(.int 1), (.int 2)] := by have u := AX; rw [RL] at u; exact u
          show Go p e below s n0 _ _ _ (T0.setTop (mkF m 58 #[rv rx, rv la, iv xk.toInt32, iv 2] []))
          refine Go.st (fun _ => XS.aloadN X0.here C.hx rfl (hb C.hby d4_58) rfl rfl) ?_
          show Go p e below s n0 _ _ _ (T0.setTop (mkF m 59 #[rv rx, rv la, iv xk.toInt32, iv 2] [(.ref rx)]))
          refine Go.alen C X0 AXX (z := (2 : Int32)) rfl d4_59 ?_
          show Go p e below s n0 _ _ _ (T0.setTop (mkF m 60 #[rv rx, rv la, iv xk.toInt32, iv 2] [(.int 2)]))
          refine Go.st (fun _ => XS.iloadN X0.here C.hx rfl (hb C.hby d4_60) rfl) ?_
          show Go p e below s n0 _ _ _ (T0.setTop (mkF m 61 #[rv rx, rv la, iv xk.toInt32, iv 2] [(.int 2), (.int 2)]))
          refine Go.icmp_eq C X0 (pc' := 66) d4_61 (by decide) (by decide) (fun _ => ?_) (fun hc => absurd hc (by decide))
          show Go p e below s n0 _ _ _ (T0.setTop (mkF m 66 #[rv rx, rv la, iv xk.toInt32, iv 2] []))
          refine Go.st (fun _ => XS.iloadN X0.here C.hx rfl (hb C.hby d4_66) rfl) ?_
          show Go p e below s n0 _ _ _ (T0.setTop (mkF m 67 #[rv rx, rv la, iv xk.toInt32, iv 2] [(.int 2)]))
          refine Go.if_le C X0 (pc' := 84) d4_67 (by decide) (by decide) (fun hc => absurd hc (by decide)) (fun _ => ?_)
          show Go p e below s n0 _ _ _ (T0.setTop (mkF m 70 #[rv rx, rv la, iv xk.toInt32, iv 2] []))
          refine Go.st (fun _ => XS.aloadN X0.here C.hx rfl (hb C.hby d4_70) rfl rfl) ?_
          show Go p e below s n0 _ _ _ (T0.setTop (mkF m 71 #[rv rx, rv la, iv xk.toInt32, iv 2] [(.ref rx)]))
          refine Go.st (fun _ => XS.iconst X0.here C.hx rfl (hb C.hby d4_71)) ?_
          show Go p e below s n0 _ _ _ (T0.setTop (mkF m 72 #[rv rx, rv la, iv xk.toInt32, iv 2] [(.int 0), (.ref rx)]))
          refine Go.iaload C X0 AXX (by decide) rfl d4_72 ?_
          show Go p e below s n0 _ _ _ (T0.setTop (mkF m 73 #[rv rx, rv la, iv xk.toInt32, iv 2] [(.int 1)]))
          refine Go.st (fun _ => XS.aloadN X0.here C.hx rfl (hb C.hby d4_73) rfl rfl) ?_
          show Go p e below s n0 _ _ _ (T0.setTop (mkF m 74 #[rv rx, rv la, iv xk.toInt32, iv 2] [(.ref la), (.int 1)]))
          refine Go.st (fun _ => XS.iloadN X0.here C.hx rfl (hb C.hby d4_74) rfl) ?_
          show Go p e below s n0 _ _ _ (T0.setTop (mkF m 75 #[rv rx, rv la, iv xk.toInt32, iv 2] [(.int xk.toInt32), (.ref la), (.int 1)]))
          refine Go.st (fun _ => XS.iconst X0.here C.hx rfl (hb C.hby d4_75)) ?_
          show Go p e below s n0 _ _ _ (T0.setTop (mkF m 76 #[rv rx, rv la, iv xk.toInt32, iv 2] [(.int 0), (.int xk.toInt32), (.ref la), (.int 1)]))
          refine Go.callS C X0 (W := 1) (argsL := [(.ref la), (.int xk.toInt32), (.int 0)]) (rest := [(.int 1)]) (wd 36 rfl) (wd 37 rfl) (wd 34 rfl) (wd 38 rfl) (by decide) (con_kth0 l Z a0 hw n0 h0 X0.size la xk.toInt32 g0 g1 g2 g3 AL) (by decide) (by decide) rfl (lenOf pd_5 rfl) (Nat.le_of_ble_eq_true rfl) rfl d4_76 (by decide) (by decide) (fun T316 h316 v316 X316 hQ316 => ?_)
          obtain ⟨rfl, hh316⟩ := hQ316
          rw [hh316] at X316
          rw [show kthF g0.toInt32 g1.toInt32 g2.toInt32 g3.toInt32 xk.toInt32 0 = (1 : Int32) from by simp [kthF, hc10_262, hc22_263, hc35_295, hc48_313]]
          show Go p e below s n0 _ _ _ (T316.setTop (mkF m 79 #[rv rx, rv la, iv xk.toInt32, iv 2] [(.int 1), (.int 1)]))
          refine Go.icmp_eq C X316 (pc' := 84) d4_79 (by decide) (by decide) (fun _ => ?_) (fun hc => absurd hc (by decide))
          show Go p e below s n0 _ _ _ (T316.setTop (mkF m 84 #[rv rx, rv la, iv xk.toInt32, iv 2] []))
          refine Go.st (fun _ => XS.iloadN X316.here C.hx rfl (hb C.hby d4_84) rfl) ?_
          show Go p e below s n0 _ _ _ (T316.setTop (mkF m 85 #[rv rx, rv la, iv xk.toInt32, iv 2] [(.int 2)]))
          refine Go.st (fun _ => XS.iconst X316.here C.hx rfl (hb C.hby d4_85)) ?_
          show Go p e below s n0 _ _ _ (T316.setTop (mkF m 86 #[rv rx, rv la, iv xk.toInt32, iv 2] [(.int 1), (.int 2)]))
          refine Go.icmp_le C X316 (pc' := 103) d4_86 (by decide) (by decide) (fun hc => absurd hc (by decide)) (fun _ => ?_)
          show Go p e below s n0 _ _ _ (T316.setTop (mkF m 89 #[rv rx, rv la, iv xk.toInt32, iv 2] []))
          refine Go.st (fun _ => XS.aloadN X316.here C.hx rfl (hb C.hby d4_89) rfl rfl) ?_
          show Go p e below s n0 _ _ _ (T316.setTop (mkF m 90 #[rv rx, rv la, iv xk.toInt32, iv 2] [(.ref rx)]))
          refine Go.st (fun _ => XS.iconst X316.here C.hx rfl (hb C.hby d4_90)) ?_
          show Go p e below s n0 _ _ _ (T316.setTop (mkF m 91 #[rv rx, rv la, iv xk.toInt32, iv 2] [(.int 1), (.ref rx)]))
          refine Go.iaload C X316 AXX (by decide) rfl d4_91 ?_
          show Go p e below s n0 _ _ _ (T316.setTop (mkF m 92 #[rv rx, rv la, iv xk.toInt32, iv 2] [(.int 2)]))
          refine Go.st (fun _ => XS.aloadN X316.here C.hx rfl (hb C.hby d4_92) rfl rfl) ?_
          show Go p e below s n0 _ _ _ (T316.setTop (mkF m 93 #[rv rx, rv la, iv xk.toInt32, iv 2] [(.ref la), (.int 2)]))
          refine Go.st (fun _ => XS.iloadN X316.here C.hx rfl (hb C.hby d4_93) rfl) ?_
          show Go p e below s n0 _ _ _ (T316.setTop (mkF m 94 #[rv rx, rv la, iv xk.toInt32, iv 2] [(.int xk.toInt32), (.ref la), (.int 2)]))
          refine Go.st (fun _ => XS.iconst X316.here C.hx rfl (hb C.hby d4_94)) ?_
          show Go p e below s n0 _ _ _ (T316.setTop (mkF m 95 #[rv rx, rv la, iv xk.toInt32, iv 2] [(.int 1), (.int xk.toInt32), (.ref la), (.int 2)]))
          refine Go.callS C X316 (W := 1) (argsL := [(.ref la), (.int xk.toInt32), (.int 1)]) (rest := [(.int 2)]) (wd 36 rfl) (wd 37 rfl) (wd 34 rfl) (wd 38 rfl) (by decide) (con_kth1 l Z a0 hw n0 h0 X316.size la xk.toInt32 g0 g1 g2 g3 AL) (by decide) (by decide) rfl (lenOf pd_5 rfl) (Nat.le_of_ble_eq_true rfl) rfl d4_95 (by decide) (by decide) (fun T319 h319 v319 X319 hQ319 => ?_)
          obtain ⟨rfl, hh319⟩ := hQ319
          rw [hh319] at X319
          rw [show kthF g0.toInt32 g1.toInt32 g2.toInt32 g3.toInt32 xk.toInt32 1 = (2 : Int32) from by simp [kthF, hc10_262, hc22_263, hc35_295, hc48_313]]
          show Go p e below s n0 _ _ _ (T319.setTop (mkF m 98 #[rv rx, rv la, iv xk.toInt32, iv 2] [(.int 2), (.int 2)]))
          refine Go.icmp_eq C X319 (pc' := 103) d4_98 (by decide) (by decide) (fun _ => ?_) (fun hc => absurd hc (by decide))
          show Go p e below s n0 _ _ _ (T319.setTop (mkF m 103 #[rv rx, rv la, iv xk.toInt32, iv 2] []))
          refine Go.st (fun _ => XS.iloadN X319.here C.hx rfl (hb C.hby d4_103) rfl) ?_
          show Go p e below s n0 _ _ _ (T319.setTop (mkF m 104 #[rv rx, rv la, iv xk.toInt32, iv 2] [(.int 2)]))
          refine Go.st (fun _ => XS.iconst X319.here C.hx rfl (hb C.hby d4_104)) ?_
          show Go p e below s n0 _ _ _ (T319.setTop (mkF m 105 #[rv rx, rv la, iv xk.toInt32, iv 2] [(.int 2), (.int 2)]))
          refine Go.icmp_le C X319 (pc' := 122) d4_105 (by decide) (by decide) (fun _ => ?_) (fun hc => absurd hc (by decide))
          show Go p e below s n0 _ _ _ (T319.setTop (mkF m 122 #[rv rx, rv la, iv xk.toInt32, iv 2] []))
          refine Go.st (fun _ => XS.iloadN X319.here C.hx rfl (hb C.hby d4_122) rfl) ?_
          show Go p e below s n0 _ _ _ (T319.setTop (mkF m 123 #[rv rx, rv la, iv xk.toInt32, iv 2] [(.int 2)]))
          refine Go.st (fun _ => XS.iconst X319.here C.hx rfl (hb C.hby d4_123)) ?_
          show Go p e below s n0 _ _ _ (T319.setTop (mkF m 124 #[rv rx, rv la, iv xk.toInt32, iv 2] [(.int 3), (.int 2)]))
          refine Go.icmp_le C X319 (pc' := 141) d4_124 (by decide) (by decide) (fun _ => ?_) (fun hc => absurd hc (by decide))
          show Go p e below s n0 _ _ _ (T319.setTop (mkF m 141 #[rv rx, rv la, iv xk.toInt32, iv 2] []))
          refine Go.st (fun _ => XS.iconst X319.here C.hx rfl (hb C.hby d4_141)) ?_
          show Go p e below s n0 _ _ _ (T319.setTop (mkF m 142 #[rv rx, rv la, iv xk.toInt32, iv 2] [(.int 1)]))
          exact Go.retZ C X319 (by decide) d4_142 ⟨rfl, rfl⟩ (by decide) (by decide)
        · show Go p e below s n0 _ _ _ (T0.setTop (mkF m 51 #[rv rx, rv la, iv xk.toInt32, .unset] [(.int 2)]))
          refine Go.st (fun _ => XS.iconst X0.here C.hx rfl (hb C.hby d4_51)) ?_
          show Go p e below s n0 _ _ _ (T0.setTop (mkF m 52 #[rv rx, rv la, iv xk.toInt32, .unset] [(.int 1), (.int 2)]))
          refine Go.st (fun _ => XS.goto X0.here C.hx rfl (pc0 := 52) (pc' := 56) rfl (hb C.hby d4_52) (by decide) (by decide)) ?_
          show Go p e below s n0 _ _ _ (T0.setTop (mkF m 56 #[rv rx, rv la, iv xk.toInt32, .unset] [(.int 1), (.int 2)]))
          refine Go.st (fun _ => XS.iadd X0.here C.hx rfl (hb C.hby d4_56) rfl) ?_
          show Go p e below s n0 _ _ _ (T0.setTop (mkF m 57 #[rv rx, rv la, iv xk.toInt32, .unset] [(.int 3)]))
          refine Go.st (fun _ => XS.istoreN X0.here C.hx rfl (hb C.hby d4_57) rfl (l' := #[rv rx, rv la, iv xk.toInt32, iv 3]) rfl) ?_
          have p0 := eq_false (fun u : xk = g0 => hc10_262 ((eqI (by omega) (by omega)).mpr u.symm))
          have p1 := eq_true ((eqI (by omega) (by omega)).mp hc22_263).symm
          have p2 := eq_true ((eqI (by omega) (by omega)).mp hc35_295).symm
          have p3 := eq_true ((eqI (by omega) (by omega)).mp hc48_313).symm
          have RL : rowP (fsF g0 g1 g2 g3) tsI 4 4 xk = [(1 : Int32), (2 : Int32), (3 : Int32)] := by
            simp only [rowP, cnt, fsF0, fsF1, fsF2, fsF3, tsI0, tsI1, tsI2, tsI3, p0, p1, p2, p3, if_true, if_false]
            try rfl
          have AXX : AR Z h0 rx .int [(.int 1), (.int 2), (.int 3)] := by have u := AX; rw [RL] at u; exact u
          show Go p e below s n0 _ _ _ (T0.setTop (mkF m 58 #[rv rx, rv la, iv xk.toInt32, iv 3] []))
          refine Go.st (fun _ => XS.aloadN X0.here C.hx rfl (hb C.hby d4_58) rfl rfl) ?_
          show Go p e below s n0 _ _ _ (T0.setTop (mkF m 59 #[rv rx, rv la, iv xk.toInt32, iv 3] [(.ref rx)]))
          refine Go.alen C X0 AXX (z := (3 : Int32)) rfl d4_59 ?_
          show Go p e below s n0 _ _ _ (T0.setTop (mkF m 60 #[rv rx, rv la, iv xk.toInt32, iv 3] [(.int 3)]))
          refine Go.st (fun _ => XS.iloadN X0.here C.hx rfl (hb C.hby d4_60) rfl) ?_
          show Go p e below s n0 _ _ _ (T0.setTop (mkF m 61 #[rv rx, rv la, iv xk.toInt32, iv 3] [(.int 3), (.int 3)]))
          refine Go.icmp_eq C X0 (pc' := 66) d4_61 (by decide) (by decide) (fun _ => ?_) (fun hc => absurd hc (by decide))
          show Go p e below s n0 _ _ _ (T0.setTop (mkF m 66 #[rv rx, rv la, iv xk.toInt32, iv 3] []))
          refine Go.st (fun _ => XS.iloadN X0.here C.hx rfl (hb C.hby d4_66) rfl) ?_
          show Go p e below s n0 _ _ _ (T0.setTop (mkF m 67 #[rv rx, rv la, iv xk.toInt32, iv 3] [(.int 3)]))
          refine Go.if_le C X0 (pc' := 84) d4_67 (by decide) (by decide) (fun hc => absurd hc (by decide)) (fun _ => ?_)
          show Go p e below s n0 _ _ _ (T0.setTop (mkF m 70 #[rv rx, rv la, iv xk.toInt32, iv 3] []))
          refine Go.st (fun _ => XS.aloadN X0.here C.hx rfl (hb C.hby d4_70) rfl rfl) ?_
          show Go p e below s n0 _ _ _ (T0.setTop (mkF m 71 #[rv rx, rv la, iv xk.toInt32, iv 3] [(.ref rx)]))
          refine Go.st (fun _ => XS.iconst X0.here C.hx rfl (hb C.hby d4_71)) ?_
          show Go p e below s n0 _ _ _ (T0.setTop (mkF m 72 #[rv rx, rv la, iv xk.toInt32, iv 3] [(.int 0), (.ref rx)]))
          refine Go.iaload C X0 AXX (by decide) rfl d4_72 ?_
          show Go p e below s n0 _ _ _ (T0.setTop (mkF m 73 #[rv rx, rv la, iv xk.toInt32, iv 3] [(.int 1)]))
          refine Go.st (fun _ => XS.aloadN X0.here C.hx rfl (hb C.hby d4_73) rfl rfl) ?_
          show Go p e below s n0 _ _ _ (T0.setTop (mkF m 74 #[rv rx, rv la, iv xk.toInt32, iv 3] [(.ref la), (.int 1)]))
          refine Go.st (fun _ => XS.iloadN X0.here C.hx rfl (hb C.hby d4_74) rfl) ?_
          show Go p e below s n0 _ _ _ (T0.setTop (mkF m 75 #[rv rx, rv la, iv xk.toInt32, iv 3] [(.int xk.toInt32), (.ref la), (.int 1)]))
          refine Go.st (fun _ => XS.iconst X0.here C.hx rfl (hb C.hby d4_75)) ?_
          show Go p e below s n0 _ _ _ (T0.setTop (mkF m 76 #[rv rx, rv la, iv xk.toInt32, iv 3] [(.int 0), (.int xk.toInt32), (.ref la), (.int 1)]))
          refine Go.callS C X0 (W := 1) (argsL := [(.ref la), (.int xk.toInt32), (.int 0)]) (rest := [(.int 1)]) (wd 36 rfl) (wd 37 rfl) (wd 34 rfl) (wd 38 rfl) (by decide) (con_kth0 l Z a0 hw n0 h0 X0.size la xk.toInt32 g0 g1 g2 g3 AL) (by decide) (by decide) rfl (lenOf pd_5 rfl) (Nat.le_of_ble_eq_true rfl) rfl d4_76 (by decide) (by decide) (fun T325 h325 v325 X325 hQ325 => ?_)
          obtain ⟨rfl, hh325⟩ := hQ325
          rw [hh325] at X325
          rw [show kthF g0.toInt32 g1.toInt32 g2.toInt32 g3.toInt32 xk.toInt32 0 = (1 : Int32) from by simp [kthF, hc10_262, hc22_263, hc35_295, hc48_313]]
          show Go p e below s n0 _ _ _ (T325.setTop (mkF m 79 #[rv rx, rv la, iv xk.toInt32, iv 3] [(.int 1), (.int 1)]))
          refine Go.icmp_eq C X325 (pc' := 84) d4_79 (by decide) (by decide) (fun _ => ?_) (fun hc => absurd hc (by decide))
          show Go p e below s n0 _ _ _ (T325.setTop (mkF m 84 #[rv rx, rv la, iv xk.toInt32, iv 3] []))
          refine Go.st (fun _ => XS.iloadN X325.here C.hx rfl (hb C.hby d4_84) rfl) ?_
          show Go p e below s n0 _ _ _ (T325.setTop (mkF m 85 #[rv rx, rv la, iv xk.toInt32, iv 3] [(.int 3)]))
          refine Go.st (fun _ => XS.iconst X325.here C.hx rfl (hb C.hby d4_85)) ?_
          show Go p e below s n0 _ _ _ (T325.setTop (mkF m 86 #[rv rx, rv la, iv xk.toInt32, iv 3] [(.int 1), (.int 3)]))
          refine Go.icmp_le C X325 (pc' := 103) d4_86 (by decide) (by decide) (fun hc => absurd hc (by decide)) (fun _ => ?_)
          show Go p e below s n0 _ _ _ (T325.setTop (mkF m 89 #[rv rx, rv la, iv xk.toInt32, iv 3] []))
          refine Go.st (fun _ => XS.aloadN X325.here C.hx rfl (hb C.hby d4_89) rfl rfl) ?_
          show Go p e below s n0 _ _ _ (T325.setTop (mkF m 90 #[rv rx, rv la, iv xk.toInt32, iv 3] [(.ref rx)]))
          refine Go.st (fun _ => XS.iconst X325.here C.hx rfl (hb C.hby d4_90)) ?_
          show Go p e below s n0 _ _ _ (T325.setTop (mkF m 91 #[rv rx, rv la, iv xk.toInt32, iv 3] [(.int 1), (.ref rx)]))
          refine Go.iaload C X325 AXX (by decide) rfl d4_91 ?_
          show Go p e below s n0 _ _ _ (T325.setTop (mkF m 92 #[rv rx, rv la, iv xk.toInt32, iv 3] [(.int 2)]))
          refine Go.st (fun _ => XS.aloadN X325.here C.hx rfl (hb C.hby d4_92) rfl rfl) ?_
          show Go p e below s n0 _ _ _ (T325.setTop (mkF m 93 #[rv rx, rv la, iv xk.toInt32, iv 3] [(.ref la), (.int 2)]))
          refine Go.st (fun _ => XS.iloadN X325.here C.hx rfl (hb C.hby d4_93) rfl) ?_
          show Go p e below s n0 _ _ _ (T325.setTop (mkF m 94 #[rv rx, rv la, iv xk.toInt32, iv 3] [(.int xk.toInt32), (.ref la), (.int 2)]))
          refine Go.st (fun _ => XS.iconst X325.here C.hx rfl (hb C.hby d4_94)) ?_
          show Go p e below s n0 _ _ _ (T325.setTop (mkF m 95 #[rv rx, rv la, iv xk.toInt32, iv 3] [(.int 1), (.int xk.toInt32), (.ref la), (.int 2)]))
          refine Go.callS C X325 (W := 1) (argsL := [(.ref la), (.int xk.toInt32), (.int 1)]) (rest := [(.int 2)]) (wd 36 rfl) (wd 37 rfl) (wd 34 rfl) (wd 38 rfl) (by decide) (con_kth1 l Z a0 hw n0 h0 X325.size la xk.toInt32 g0 g1 g2 g3 AL) (by decide) (by decide) rfl (lenOf pd_5 rfl) (Nat.le_of_ble_eq_true rfl) rfl d4_95 (by decide) (by decide) (fun T328 h328 v328 X328 hQ328 => ?_)
          obtain ⟨rfl, hh328⟩ := hQ328
          rw [hh328] at X328
          rw [show kthF g0.toInt32 g1.toInt32 g2.toInt32 g3.toInt32 xk.toInt32 1 = (2 : Int32) from by simp [kthF, hc10_262, hc22_263, hc35_295, hc48_313]]
          show Go p e below s n0 _ _ _ (T328.setTop (mkF m 98 #[rv rx, rv la, iv xk.toInt32, iv 3] [(.int 2), (.int 2)]))
          refine Go.icmp_eq C X328 (pc' := 103) d4_98 (by decide) (by decide) (fun _ => ?_) (fun hc => absurd hc (by decide))
          show Go p e below s n0 _ _ _ (T328.setTop (mkF m 103 #[rv rx, rv la, iv xk.toInt32, iv 3] []))
          refine Go.st (fun _ => XS.iloadN X328.here C.hx rfl (hb C.hby d4_103) rfl) ?_
          show Go p e below s n0 _ _ _ (T328.setTop (mkF m 104 #[rv rx, rv la, iv xk.toInt32, iv 3] [(.int 3)]))
          refine Go.st (fun _ => XS.iconst X328.here C.hx rfl (hb C.hby d4_104)) ?_
          show Go p e below s n0 _ _ _ (T328.setTop (mkF m 105 #[rv rx, rv la, iv xk.toInt32, iv 3] [(.int 2), (.int 3)]))
          refine Go.icmp_le C X328 (pc' := 122) d4_105 (by decide) (by decide) (fun hc => absurd hc (by decide)) (fun _ => ?_)
          show Go p e below s n0 _ _ _ (T328.setTop (mkF m 108 #[rv rx, rv la, iv xk.toInt32, iv 3] []))
          refine Go.st (fun _ => XS.aloadN X328.here C.hx rfl (hb C.hby d4_108) rfl rfl) ?_
          show Go p e below s n0 _ _ _ (T328.setTop (mkF m 109 #[rv rx, rv la, iv xk.toInt32, iv 3] [(.ref rx)]))
          refine Go.st (fun _ => XS.iconst X328.here C.hx rfl (hb C.hby d4_109)) ?_
          show Go p e below s n0 _ _ _ (T328.setTop (mkF m 110 #[rv rx, rv la, iv xk.toInt32, iv 3] [(.int 2), (.ref rx)]))
          refine Go.iaload C X328 AXX (by decide) rfl d4_110 ?_
          show Go p e below s n0 _ _ _ (T328.setTop (mkF m 111 #[rv rx, rv la, iv xk.toInt32, iv 3] [(.int 3)]))
          refine Go.st (fun _ => XS.aloadN X328.here C.hx rfl (hb C.hby d4_111) rfl rfl) ?_
          show Go p e below s n0 _ _ _ (T328.setTop (mkF m 112 #[rv rx, rv la, iv xk.toInt32, iv 3] [(.ref la), (.int 3)]))
          refine Go.st (fun _ => XS.iloadN X328.here C.hx rfl (hb C.hby d4_112) rfl) ?_
          show Go p e below s n0 _ _ _ (T328.setTop (mkF m 113 #[rv rx, rv la, iv xk.toInt32, iv 3] [(.int xk.toInt32), (.ref la), (.int 3)]))
          refine Go.st (fun _ => XS.iconst X328.here C.hx rfl (hb C.hby d4_113)) ?_
          show Go p e below s n0 _ _ _ (T328.setTop (mkF m 114 #[rv rx, rv la, iv xk.toInt32, iv 3] [(.int 2), (.int xk.toInt32), (.ref la), (.int 3)]))
          refine Go.callS C X328 (W := 1) (argsL := [(.ref la), (.int xk.toInt32), (.int 2)]) (rest := [(.int 3)]) (wd 36 rfl) (wd 37 rfl) (wd 34 rfl) (wd 38 rfl) (by decide) (con_kth2 l Z a0 hw n0 h0 X328.size la xk.toInt32 g0 g1 g2 g3 AL) (by decide) (by decide) rfl (lenOf pd_5 rfl) (Nat.le_of_ble_eq_true rfl) rfl d4_114 (by decide) (by decide) (fun T331 h331 v331 X331 hQ331 => ?_)
          obtain ⟨rfl, hh331⟩ := hQ331
          rw [hh331] at X331
          rw [show kthF g0.toInt32 g1.toInt32 g2.toInt32 g3.toInt32 xk.toInt32 2 = (3 : Int32) from by simp [kthF, hc10_262, hc22_263, hc35_295, hc48_313]]
          show Go p e below s n0 _ _ _ (T331.setTop (mkF m 117 #[rv rx, rv la, iv xk.toInt32, iv 3] [(.int 3), (.int 3)]))
          refine Go.icmp_eq C X331 (pc' := 122) d4_117 (by decide) (by decide) (fun _ => ?_) (fun hc => absurd hc (by decide))
          show Go p e below s n0 _ _ _ (T331.setTop (mkF m 122 #[rv rx, rv la, iv xk.toInt32, iv 3] []))
          refine Go.st (fun _ => XS.iloadN X331.here C.hx rfl (hb C.hby d4_122) rfl) ?_
          show Go p e below s n0 _ _ _ (T331.setTop (mkF m 123 #[rv rx, rv la, iv xk.toInt32, iv 3] [(.int 3)]))
          refine Go.st (fun _ => XS.iconst X331.here C.hx rfl (hb C.hby d4_123)) ?_
          show Go p e below s n0 _ _ _ (T331.setTop (mkF m 124 #[rv rx, rv la, iv xk.toInt32, iv 3] [(.int 3), (.int 3)]))
          refine Go.icmp_le C X331 (pc' := 141) d4_124 (by decide) (by decide) (fun _ => ?_) (fun hc => absurd hc (by decide))
          show Go p e below s n0 _ _ _ (T331.setTop (mkF m 141 #[rv rx, rv la, iv xk.toInt32, iv 3] []))
          refine Go.st (fun _ => XS.iconst X331.here C.hx rfl (hb C.hby d4_141)) ?_
          show Go p e below s n0 _ _ _ (T331.setTop (mkF m 142 #[rv rx, rv la, iv xk.toInt32, iv 3] [(.int 1)]))
          exact Go.retZ C X331 (by decide) d4_142 ⟨rfl, rfl⟩ (by decide) (by decide)
  · show Go p e below s n0 _ _ _ (T0.setTop (mkF m 13 #[rv rx, rv la, iv xk.toInt32, .unset] []))
    refine Go.st (fun _ => XS.iconst X0.here C.hx rfl (hb C.hby d4_13)) ?_
    show Go p e below s n0 _ _ _ (T0.setTop (mkF m 14 #[rv rx, rv la, iv xk.toInt32, .unset] [(.int 1)]))
    refine Go.st (fun _ => XS.goto X0.here C.hx rfl (pc0 := 14) (pc' := 18) rfl (hb C.hby d4_14) (by decide) (by decide)) ?_
    show Go p e below s n0 _ _ _ (T0.setTop (mkF m 18 #[rv rx, rv la, iv xk.toInt32, .unset] [(.int 1)]))
    refine Go.st (fun _ => XS.aloadN X0.here C.hx rfl (hb C.hby d4_18) rfl rfl) ?_
    show Go p e below s n0 _ _ _ (T0.setTop (mkF m 19 #[rv rx, rv la, iv xk.toInt32, .unset] [(.ref la), (.int 1)]))
    refine Go.st (fun _ => XS.iconst X0.here C.hx rfl (hb C.hby d4_19)) ?_
    show Go p e below s n0 _ _ _ (T0.setTop (mkF m 20 #[rv rx, rv la, iv xk.toInt32, .unset] [(.int 1), (.ref la), (.int 1)]))
    refine Go.iaload C X0 AL (by decide) rfl d4_20 ?_
    show Go p e below s n0 _ _ _ (T0.setTop (mkF m 21 #[rv rx, rv la, iv xk.toInt32, .unset] [(.int g1.toInt32), (.int 1)]))
    refine Go.st (fun _ => XS.iloadN X0.here C.hx rfl (hb C.hby d4_21) rfl) ?_
    show Go p e below s n0 _ _ _ (T0.setTop (mkF m 22 #[rv rx, rv la, iv xk.toInt32, .unset] [(.int xk.toInt32), (.int g1.toInt32), (.int 1)]))
    refine Go.icmp_ne C X0 (pc' := 29) d4_22 (by decide) (by decide) (fun hc22_334 => ?_) (fun hc22_334 => ?_)
    · show Go p e below s n0 _ _ _ (T0.setTop (mkF m 29 #[rv rx, rv la, iv xk.toInt32, .unset] [(.int 1)]))
      refine Go.st (fun _ => XS.iconst X0.here C.hx rfl (hb C.hby d4_29)) ?_
      show Go p e below s n0 _ _ _ (T0.setTop (mkF m 30 #[rv rx, rv la, iv xk.toInt32, .unset] [(.int 0), (.int 1)]))
      refine Go.st (fun _ => XS.iadd X0.here C.hx rfl (hb C.hby d4_30) rfl) ?_
      show Go p e below s n0 _ _ _ (T0.setTop (mkF m 31 #[rv rx, rv la, iv xk.toInt32, .unset] [(.int 1)]))
      refine Go.st (fun _ => XS.aloadN X0.here C.hx rfl (hb C.hby d4_31) rfl rfl) ?_
      show Go p e below s n0 _ _ _ (T0.setTop (mkF m 32 #[rv rx, rv la, iv xk.toInt32, .unset] [(.ref la), (.int 1)]))
      refine Go.st (fun _ => XS.iconst X0.here C.hx rfl (hb C.hby d4_32)) ?_
      show Go p e below s n0 _ _ _ (T0.setTop (mkF m 33 #[rv rx, rv la, iv xk.toInt32, .unset] [(.int 2), (.ref la), (.int 1)]))
      refine Go.iaload C X0 AL (by decide) rfl d4_33 ?_
      show Go p e below s n0 _ _ _ (T0.setTop (mkF m 34 #[rv rx, rv la, iv xk.toInt32, .unset] [(.int g2.toInt32), (.int 1)]))
      refine Go.st (fun _ => XS.iloadN X0.here C.hx rfl (hb C.hby d4_34) rfl) ?_
      show Go p e below s n0 _ _ _ (T0.setTop (mkF m 35 #[rv rx, rv la, iv xk.toInt32, .unset] [(.int xk.toInt32), (.int g2.toInt32), (.int 1)]))
      refine Go.icmp_ne C X0 (pc' := 42) d4_35 (by decide) (by decide) (fun hc35_335 => ?_) (fun hc35_335 => ?_)
      · show Go p e below s n0 _ _ _ (T0.setTop (mkF m 42 #[rv rx, rv la, iv xk.toInt32, .unset] [(.int 1)]))
        refine Go.st (fun _ => XS.iconst X0.here C.hx rfl (hb C.hby d4_42)) ?_
        show Go p e below s n0 _ _ _ (T0.setTop (mkF m 43 #[rv rx, rv la, iv xk.toInt32, .unset] [(.int 0), (.int 1)]))
        refine Go.st (fun _ => XS.iadd X0.here C.hx rfl (hb C.hby d4_43) rfl) ?_
        show Go p e below s n0 _ _ _ (T0.setTop (mkF m 44 #[rv rx, rv la, iv xk.toInt32, .unset] [(.int 1)]))
        refine Go.st (fun _ => XS.aloadN X0.here C.hx rfl (hb C.hby d4_44) rfl rfl) ?_
        show Go p e below s n0 _ _ _ (T0.setTop (mkF m 45 #[rv rx, rv la, iv xk.toInt32, .unset] [(.ref la), (.int 1)]))
        refine Go.st (fun _ => XS.iconst X0.here C.hx rfl (hb C.hby d4_45)) ?_
        show Go p e below s n0 _ _ _ (T0.setTop (mkF m 46 #[rv rx, rv la, iv xk.toInt32, .unset] [(.int 3), (.ref la), (.int 1)]))
        refine Go.iaload C X0 AL (by decide) rfl d4_46 ?_
        show Go p e below s n0 _ _ _ (T0.setTop (mkF m 47 #[rv rx, rv la, iv xk.toInt32, .unset] [(.int g3.toInt32), (.int 1)]))
        refine Go.st (fun _ => XS.iloadN X0.here C.hx rfl (hb C.hby d4_47) rfl) ?_
        show Go p e below s n0 _ _ _ (T0.setTop (mkF m 48 #[rv rx, rv la, iv xk.toInt32, .unset] [(.int xk.toInt32), (.int g3.toInt32), (.int 1)]))
        refine Go.icmp_ne C X0 (pc' := 55) d4_48 (by decide) (by decide) (fun hc48_336 => ?_) (fun hc48_336 => ?_)
        · show Go p e below s n0 _ _ _ (T0.setTop (mkF m 55 #[rv rx, rv la, iv xk.toInt32, .unset] [(.int 1)]))
          refine Go.st (fun _ => XS.iconst X0.here C.hx rfl (hb C.hby d4_55)) ?_
          show Go p e below s n0 _ _ _ (T0.setTop (mkF m 56 #[rv rx, rv la, iv xk.toInt32, .unset] [(.int 0), (.int 1)]))
          refine Go.st (fun _ => XS.iadd X0.here C.hx rfl (hb C.hby d4_56) rfl) ?_
          show Go p e below s n0 _ _ _ (T0.setTop (mkF m 57 #[rv rx, rv la, iv xk.toInt32, .unset] [(.int 1)]))
          refine Go.st (fun _ => XS.istoreN X0.here C.hx rfl (hb C.hby d4_57) rfl (l' := #[rv rx, rv la, iv xk.toInt32, iv 1]) rfl) ?_
          have p0 := eq_true ((eqI (by omega) (by omega)).mp hc10_262).symm
          have p1 := eq_false (fun u : xk = g1 => hc22_334 ((eqI (by omega) (by omega)).mpr u.symm))
          have p2 := eq_false (fun u : xk = g2 => hc35_335 ((eqI (by omega) (by omega)).mpr u.symm))
          have p3 := eq_false (fun u : xk = g3 => hc48_336 ((eqI (by omega) (by omega)).mpr u.symm))
          have RL : rowP (fsF g0 g1 g2 g3) tsI 4 4 xk = [(0 : Int32)] := by
            simp only [rowP, cnt, fsF0, fsF1, fsF2, fsF3, tsI0, tsI1, tsI2, tsI3, p0, p1, p2, p3, if_true, if_false]
            try rfl
          have AXX : AR Z h0 rx .int [(.int 0)] := by have u := AX; rw [RL] at u; exact u
          show Go p e below s n0 _ _ _ (T0.setTop (mkF m 58 #[rv rx, rv la, iv xk.toInt32, iv 1] []))
          refine Go.st (fun _ => XS.aloadN X0.here C.hx rfl (hb C.hby d4_58) rfl rfl) ?_
          show Go p e below s n0 _ _ _ (T0.setTop (mkF m 59 #[rv rx, rv la, iv xk.toInt32, iv 1] [(.ref rx)]))
          refine Go.alen C X0 AXX (z := (1 : Int32)) rfl d4_59 ?_
          show Go p e below s n0 _ _ _ (T0.setTop (mkF m 60 #[rv rx, rv la, iv xk.toInt32, iv 1] [(.int 1)]))
          refine Go.st (fun _ => XS.iloadN X0.here C.hx rfl (hb C.hby d4_60) rfl) ?_
          show Go p e below s n0 _ _ _ (T0.setTop (mkF m 61 #[rv rx, rv la, iv xk.toInt32, iv 1] [(.int 1), (.int 1)]))
          refine Go.icmp_eq C X0 (pc' := 66) d4_61 (by decide) (by decide) (fun _ => ?_) (fun hc => absurd hc (by decide))
          show Go p e below s n0 _ _ _ (T0.setTop (mkF m 66 #[rv rx, rv la, iv xk.toInt32, iv 1] []))
          refine Go.st (fun _ => XS.iloadN X0.here C.hx rfl (hb C.hby d4_66) rfl) ?_
          show Go p e below s n0 _ _ _ (T0.setTop (mkF m 67 #[rv rx, rv la, iv xk.toInt32, iv 1] [(.int 1)]))
          refine Go.if_le C X0 (pc' := 84) d4_67 (by decide) (by decide) (fun hc => absurd hc (by decide)) (fun _ => ?_)
          show Go p e below s n0 _ _ _ (T0.setTop (mkF m 70 #[rv rx, rv la, iv xk.toInt32, iv 1] []))
          refine Go.st (fun _ => XS.aloadN X0.here C.hx rfl (hb C.hby d4_70) rfl rfl) ?_
          show Go p e below s n0 _ _ _ (T0.setTop (mkF m 71 #[rv rx, rv la, iv xk.toInt32, iv 1] [(.ref rx)]))
          refine Go.st (fun _ => XS.iconst X0.here C.hx rfl (hb C.hby d4_71)) ?_
          show Go p e below s n0 _ _ _ (T0.setTop (mkF m 72 #[rv rx, rv la, iv xk.toInt32, iv 1] [(.int 0), (.ref rx)]))
          refine Go.iaload C X0 AXX (by decide) rfl d4_72 ?_
          show Go p e below s n0 _ _ _ (T0.setTop (mkF m 73 #[rv rx, rv la, iv xk.toInt32, iv 1] [(.int 0)]))
          refine Go.st (fun _ => XS.aloadN X0.here C.hx rfl (hb C.hby d4_73) rfl rfl) ?_
          show Go p e below s n0 _ _ _ (T0.setTop (mkF m 74 #[rv rx, rv la, iv xk.toInt32, iv 1] [(.ref la), (.int 0)]))
          refine Go.st (fun _ => XS.iloadN X0.here C.hx rfl (hb C.hby d4_74) rfl) ?_
          show Go p e below s n0 _ _ _ (T0.setTop (mkF m 75 #[rv rx, rv la, iv xk.toInt32, iv 1] [(.int xk.toInt32), (.ref la), (.int 0)]))
          refine Go.st (fun _ => XS.iconst X0.here C.hx rfl (hb C.hby d4_75)) ?_
          show Go p e below s n0 _ _ _ (T0.setTop (mkF m 76 #[rv rx, rv la, iv xk.toInt32, iv 1] [(.int 0), (.int xk.toInt32), (.ref la), (.int 0)]))
          refine Go.callS C X0 (W := 1) (argsL := [(.ref la), (.int xk.toInt32), (.int 0)]) (rest := [(.int 0)]) (wd 36 rfl) (wd 37 rfl) (wd 34 rfl) (wd 38 rfl) (by decide) (con_kth0 l Z a0 hw n0 h0 X0.size la xk.toInt32 g0 g1 g2 g3 AL) (by decide) (by decide) rfl (lenOf pd_5 rfl) (Nat.le_of_ble_eq_true rfl) rfl d4_76 (by decide) (by decide) (fun T339 h339 v339 X339 hQ339 => ?_)
          obtain ⟨rfl, hh339⟩ := hQ339
          rw [hh339] at X339
          rw [show kthF g0.toInt32 g1.toInt32 g2.toInt32 g3.toInt32 xk.toInt32 0 = (0 : Int32) from by simp [kthF, hc10_262, hc22_334, hc35_335, hc48_336]]
          show Go p e below s n0 _ _ _ (T339.setTop (mkF m 79 #[rv rx, rv la, iv xk.toInt32, iv 1] [(.int 0), (.int 0)]))
          refine Go.icmp_eq C X339 (pc' := 84) d4_79 (by decide) (by decide) (fun _ => ?_) (fun hc => absurd hc (by decide))
          show Go p e below s n0 _ _ _ (T339.setTop (mkF m 84 #[rv rx, rv la, iv xk.toInt32, iv 1] []))
          refine Go.st (fun _ => XS.iloadN X339.here C.hx rfl (hb C.hby d4_84) rfl) ?_
          show Go p e below s n0 _ _ _ (T339.setTop (mkF m 85 #[rv rx, rv la, iv xk.toInt32, iv 1] [(.int 1)]))
          refine Go.st (fun _ => XS.iconst X339.here C.hx rfl (hb C.hby d4_85)) ?_
          show Go p e below s n0 _ _ _ (T339.setTop (mkF m 86 #[rv rx, rv la, iv xk.toInt32, iv 1] [(.int 1), (.int 1)]))
          refine Go.icmp_le C X339 (pc' := 103) d4_86 (by decide) (by decide) (fun _ => ?_) (fun hc => absurd hc (by decide))
          show Go p e below s n0 _ _ _ (T339.setTop (mkF m 103 #[rv rx, rv la, iv xk.toInt32, iv 1] []))
          refine Go.st (fun _ => XS.iloadN X339.here C.hx rfl (hb C.hby d4_103) rfl) ?_
          show Go p e below s n0 _ _ _ (T339.setTop (mkF m 104 #[rv rx, rv la, iv xk.toInt32, iv 1] [(.int 1)]))
          refine Go.st (fun _ => XS.iconst X339.here C.hx rfl (hb C.hby d4_104)) ?_
          show Go p e below s n0 _ _ _ (T339.setTop (mkF m 105 #[rv rx, rv la, iv xk.toInt32, iv 1] [(.int 2), (.int 1)]))
          refine Go.icmp_le C X339 (pc' := 122) d4_105 (by decide) (by decide) (fun _ => ?_) (fun hc => absurd hc (by decide))
          show Go p e below s n0 _ _ _ (T339.setTop (mkF m 122 #[rv rx, rv la, iv xk.toInt32, iv 1] []))
          refine Go.st (fun _ => XS.iloadN X339.here C.hx rfl (hb C.hby d4_122) rfl) ?_
          show Go p e below s n0 _ _ _ (T339.setTop (mkF m 123 #[rv rx, rv la, iv xk.toInt32, iv 1] [(.int 1)]))
          refine Go.st (fun _ => XS.iconst X339.here C.hx rfl (hb C.hby d4_123)) ?_
          show Go p e below s n0 _ _ _ (T339.setTop (mkF m 124 #[rv rx, rv la, iv xk.toInt32, iv 1] [(.int 3), (.int 1)]))
          refine Go.icmp_le C X339 (pc' := 141) d4_124 (by decide) (by decide) (fun _ => ?_) (fun hc => absurd hc (by decide))
          show Go p e below s n0 _ _ _ (T339.setTop (mkF m 141 #[rv rx, rv la, iv xk.toInt32, iv 1] []))
          refine Go.st (fun _ => XS.iconst X339.here C.hx rfl (hb C.hby d4_141)) ?_
          show Go p e below s n0 _ _ _ (T339.setTop (mkF m 142 #[rv rx, rv la, iv xk.toInt32, iv 1] [(.int 1)]))
          exact Go.retZ C X339 (by decide) d4_142 ⟨rfl, rfl⟩ (by decide) (by decide)
        · show Go p e below s n0 _ _ _ (T0.setTop (mkF m 51 #[rv rx, rv la, iv xk.toInt32, .unset] [(.int 1)]))
          refine Go.st (fun _ => XS.iconst X0.here C.hx rfl (hb C.hby d4_51)) ?_
          show Go p e below s n0 _ _ _ (T0.setTop (mkF m 52 #[rv rx, rv la, iv xk.toInt32, .unset] [(.int 1), (.int 1)]))
          refine Go.st (fun _ => XS.goto X0.here C.hx rfl (pc0 := 52) (pc' := 56) rfl (hb C.hby d4_52) (by decide) (by decide)) ?_
          show Go p e below s n0 _ _ _ (T0.setTop (mkF m 56 #[rv rx, rv la, iv xk.toInt32, .unset] [(.int 1), (.int 1)]))
          refine Go.st (fun _ => XS.iadd X0.here C.hx rfl (hb C.hby d4_56) rfl) ?_
          show Go p e below s n0 _ _ _ (T0.setTop (mkF m 57 #[rv rx, rv la, iv xk.toInt32, .unset] [(.int 2)]))
          refine Go.st (fun _ => XS.istoreN X0.here C.hx rfl (hb C.hby d4_57) rfl (l' := #[rv rx, rv la, iv xk.toInt32, iv 2]) rfl) ?_
          have p0 := eq_true ((eqI (by omega) (by omega)).mp hc10_262).symm
          have p1 := eq_false (fun u : xk = g1 => hc22_334 ((eqI (by omega) (by omega)).mpr u.symm))
          have p2 := eq_false (fun u : xk = g2 => hc35_335 ((eqI (by omega) (by omega)).mpr u.symm))
          have p3 := eq_true ((eqI (by omega) (by omega)).mp hc48_336).symm
          have RL : rowP (fsF g0 g1 g2 g3) tsI 4 4 xk = [(0 : Int32), (3 : Int32)] := by
            simp only [rowP, cnt, fsF0, fsF1, fsF2, fsF3, tsI0, tsI1, tsI2, tsI3, p0, p1, p2, p3, if_true, if_false]
            try rfl
          have AXX : AR Z h0 rx .int [(.int 0), (.int 3)] := by have u := AX; rw [RL] at u; exact u
          show Go p e below s n0 _ _ _ (T0.setTop (mkF m 58 #[rv rx, rv la, iv xk.toInt32, iv 2] []))
          refine Go.st (fun _ => XS.aloadN X0.here C.hx rfl (hb C.hby d4_58) rfl rfl) ?_
          show Go p e below s n0 _ _ _ (T0.setTop (mkF m 59 #[rv rx, rv la, iv xk.toInt32, iv 2] [(.ref rx)]))
          refine Go.alen C X0 AXX (z := (2 : Int32)) rfl d4_59 ?_
          show Go p e below s n0 _ _ _ (T0.setTop (mkF m 60 #[rv rx, rv la, iv xk.toInt32, iv 2] [(.int 2)]))
          refine Go.st (fun _ => XS.iloadN X0.here C.hx rfl (hb C.hby d4_60) rfl) ?_
          show Go p e below s n0 _ _ _ (T0.setTop (mkF m 61 #[rv rx, rv la, iv xk.toInt32, iv 2] [(.int 2), (.int 2)]))
          refine Go.icmp_eq C X0 (pc' := 66) d4_61 (by decide) (by decide) (fun _ => ?_) (fun hc => absurd hc (by decide))
          show Go p e below s n0 _ _ _ (T0.setTop (mkF m 66 #[rv rx, rv la, iv xk.toInt32, iv 2] []))
          refine Go.st (fun _ => XS.iloadN X0.here C.hx rfl (hb C.hby d4_66) rfl) ?_
          show Go p e below s n0 _ _ _ (T0.setTop (mkF m 67 #[rv rx, rv la, iv xk.toInt32, iv 2] [(.int 2)]))
          refine Go.if_le C X0 (pc' := 84) d4_67 (by decide) (by decide) (fun hc => absurd hc (by decide)) (fun _ => ?_)
          show Go p e below s n0 _ _ _ (T0.setTop (mkF m 70 #[rv rx, rv la, iv xk.toInt32, iv 2] []))
          refine Go.st (fun _ => XS.aloadN X0.here C.hx rfl (hb C.hby d4_70) rfl rfl) ?_
          show Go p e below s n0 _ _ _ (T0.setTop (mkF m 71 #[rv rx, rv la, iv xk.toInt32, iv 2] [(.ref rx)]))
          refine Go.st (fun _ => XS.iconst X0.here C.hx rfl (hb C.hby d4_71)) ?_
          show Go p e below s n0 _ _ _ (T0.setTop (mkF m 72 #[rv rx, rv la, iv xk.toInt32, iv 2] [(.int 0), (.ref rx)]))
          refine Go.iaload C X0 AXX (by decide) rfl d4_72 ?_
          show Go p e below s n0 _ _ _ (T0.setTop (mkF m 73 #[rv rx, rv la, iv xk.toInt32, iv 2] [(.int 0)]))
          refine Go.st (fun _ => XS.aloadN X0.here C.hx rfl (hb C.hby d4_73) rfl rfl) ?_
          show Go p e below s n0 _ _ _ (T0.setTop (mkF m 74 #[rv rx, rv la, iv xk.toInt32, iv 2] [(.ref la), (.int 0)]))
          refine Go.st (fun _ => XS.iloadN X0.here C.hx rfl (hb C.hby d4_74) rfl) ?_
          show Go p e below s n0 _ _ _ (T0.setTop (mkF m 75 #[rv rx, rv la, iv xk.toInt32, iv 2] [(.int xk.toInt32), (.ref la), (.int 0)]))
          refine Go.st (fun _ => XS.iconst X0.here C.hx rfl (hb C.hby d4_75)) ?_
          show Go p e below s n0 _ _ _ (T0.setTop (mkF m 76 #[rv rx, rv la, iv xk.toInt32, iv 2] [(.int 0), (.int xk.toInt32), (.ref la), (.int 0)]))
          refine Go.callS C X0 (W := 1) (argsL := [(.ref la), (.int xk.toInt32), (.int 0)]) (rest := [(.int 0)]) (wd 36 rfl) (wd 37 rfl) (wd 34 rfl) (wd 38 rfl) (by decide) (con_kth0 l Z a0 hw n0 h0 X0.size la xk.toInt32 g0 g1 g2 g3 AL) (by decide) (by decide) rfl (lenOf pd_5 rfl) (Nat.le_of_ble_eq_true rfl) rfl d4_76 (by decide) (by decide) (fun T346 h346 v346 X346 hQ346 => ?_)
          obtain ⟨rfl, hh346⟩ := hQ346
          rw [hh346] at X346
          rw [show kthF g0.toInt32 g1.toInt32 g2.toInt32 g3.toInt32 xk.toInt32 0 = (0 : Int32) from by simp [kthF, hc10_262, hc22_334, hc35_335, hc48_336]]
          show Go p e below s n0 _ _ _ (T346.setTop (mkF m 79 #[rv rx, rv la, iv xk.toInt32, iv 2] [(.int 0), (.int 0)]))
          refine Go.icmp_eq C X346 (pc' := 84) d4_79 (by decide) (by decide) (fun _ => ?_) (fun hc => absurd hc (by decide))
          show Go p e below s n0 _ _ _ (T346.setTop (mkF m 84 #[rv rx, rv la, iv xk.toInt32, iv 2] []))
          refine Go.st (fun _ => XS.iloadN X346.here C.hx rfl (hb C.hby d4_84) rfl) ?_
          show Go p e below s n0 _ _ _ (T346.setTop (mkF m 85 #[rv rx, rv la, iv xk.toInt32, iv 2] [(.int 2)]))
          refine Go.st (fun _ => XS.iconst X346.here C.hx rfl (hb C.hby d4_85)) ?_
          show Go p e below s n0 _ _ _ (T346.setTop (mkF m 86 #[rv rx, rv la, iv xk.toInt32, iv 2] [(.int 1), (.int 2)]))
          refine Go.icmp_le C X346 (pc' := 103) d4_86 (by decide) (by decide) (fun hc => absurd hc (by decide)) (fun _ => ?_)
          show Go p e below s n0 _ _ _ (T346.setTop (mkF m 89 #[rv rx, rv la, iv xk.toInt32, iv 2] []))
          refine Go.st (fun _ => XS.aloadN X346.here C.hx rfl (hb C.hby d4_89) rfl rfl) ?_
          show Go p e below s n0 _ _ _ (T346.setTop (mkF m 90 #[rv rx, rv la, iv xk.toInt32, iv 2] [(.ref rx)]))
          refine Go.st (fun _ => XS.iconst X346.here C.hx rfl (hb C.hby d4_90)) ?_
          show Go p e below s n0 _ _ _ (T346.setTop (mkF m 91 #[rv rx, rv la, iv xk.toInt32, iv 2] [(.int 1), (.ref rx)]))
          refine Go.iaload C X346 AXX (by decide) rfl d4_91 ?_
          show Go p e below s n0 _ _ _ (T346.setTop (mkF m 92 #[rv rx, rv la, iv xk.toInt32, iv 2] [(.int 3)]))
          refine Go.st (fun _ => XS.aloadN X346.here C.hx rfl (hb C.hby d4_92) rfl rfl) ?_
          show Go p e below s n0 _ _ _ (T346.setTop (mkF m 93 #[rv rx, rv la, iv xk.toInt32, iv 2] [(.ref la), (.int 3)]))
          refine Go.st (fun _ => XS.iloadN X346.here C.hx rfl (hb C.hby d4_93) rfl) ?_
          show Go p e below s n0 _ _ _ (T346.setTop (mkF m 94 #[rv rx, rv la, iv xk.toInt32, iv 2] [(.int xk.toInt32), (.ref la), (.int 3)]))
          refine Go.st (fun _ => XS.iconst X346.here C.hx rfl (hb C.hby d4_94)) ?_
          show Go p e below s n0 _ _ _ (T346.setTop (mkF m 95 #[rv rx, rv la, iv xk.toInt32, iv 2] [(.int 1), (.int xk.toInt32), (.ref la), (.int 3)]))
          refine Go.callS C X346 (W := 1) (argsL := [(.ref la), (.int xk.toInt32), (.int 1)]) (rest := [(.int 3)]) (wd 36 rfl) (wd 37 rfl) (wd 34 rfl) (wd 38 rfl) (by decide) (con_kth1 l Z a0 hw n0 h0 X346.size la xk.toInt32 g0 g1 g2 g3 AL) (by decide) (by decide) rfl (lenOf pd_5 rfl) (Nat.le_of_ble_eq_true rfl) rfl d4_95 (by decide) (by decide) (fun T349 h349 v349 X349 hQ349 => ?_)
          obtain ⟨rfl, hh349⟩ := hQ349
          rw [hh349] at X349
          rw [show kthF g0.toInt32 g1.toInt32 g2.toInt32 g3.toInt32 xk.toInt32 1 = (3 : Int32) from by simp [kthF, hc10_262, hc22_334, hc35_335, hc48_336]]
          show Go p e below s n0 _ _ _ (T349.setTop (mkF m 98 #[rv rx, rv la, iv xk.toInt32, iv 2] [(.int 3), (.int 3)]))
          refine Go.icmp_eq C X349 (pc' := 103) d4_98 (by decide) (by decide) (fun _ => ?_) (fun hc => absurd hc (by decide))
          show Go p e below s n0 _ _ _ (T349.setTop (mkF m 103 #[rv rx, rv la, iv xk.toInt32, iv 2] []))
          refine Go.st (fun _ => XS.iloadN X349.here C.hx rfl (hb C.hby d4_103) rfl) ?_
          show Go p e below s n0 _ _ _ (T349.setTop (mkF m 104 #[rv rx, rv la, iv xk.toInt32, iv 2] [(.int 2)]))
          refine Go.st (fun _ => XS.iconst X349.here C.hx rfl (hb C.hby d4_104)) ?_
          show Go p e below s n0 _ _ _ (T349.setTop (mkF m 105 #[rv rx, rv la, iv xk.toInt32, iv 2] [(.int 2), (.int 2)]))
          refine Go.icmp_le C X349 (pc' := 122) d4_105 (by decide) (by decide) (fun _ => ?_) (fun hc => absurd hc (by decide))
          show Go p e below s n0 _ _ _ (T349.setTop (mkF m 122 #[rv rx, rv la, iv xk.toInt32, iv 2] []))
          refine Go.st (fun _ => XS.iloadN X349.here C.hx rfl (hb C.hby d4_122) rfl) ?_
          show Go p e below s n0 _ _ _ (T349.setTop (mkF m 123 #[rv rx, rv la, iv xk.toInt32, iv 2] [(.int 2)]))
          refine Go.st (fun _ => XS.iconst X349.here C.hx rfl (hb C.hby d4_123)) ?_
          show Go p e below s n0 _ _ _ (T349.setTop (mkF m 124 #[rv rx, rv la, iv xk.toInt32, iv 2] [(.int 3), (.int 2)]))
          refine Go.icmp_le C X349 (pc' := 141) d4_124 (by decide) (by decide) (fun _ => ?_) (fun hc => absurd hc (by decide))
          show Go p e below s n0 _ _ _ (T349.setTop (mkF m 141 #[rv rx, rv la, iv xk.toInt32, iv 2] []))
          refine Go.st (fun _ => XS.iconst X349.here C.hx rfl (hb C.hby d4_141)) ?_
          show Go p e below s n0 _ _ _ (T349.setTop (mkF m 142 #[rv rx, rv la, iv xk.toInt32, iv 2] [(.int 1)]))
          exact Go.retZ C X349 (by decide) d4_142 ⟨rfl, rfl⟩ (by decide) (by decide)
      · show Go p e below s n0 _ _ _ (T0.setTop (mkF m 38 #[rv rx, rv la, iv xk.toInt32, .unset] [(.int 1)]))
        refine Go.st (fun _ => XS.iconst X0.here C.hx rfl (hb C.hby d4_38)) ?_
        show Go p e below s n0 _ _ _ (T0.setTop (mkF m 39 #[rv rx, rv la, iv xk.toInt32, .unset] [(.int 1), (.int 1)]))
        refine Go.st (fun _ => XS.goto X0.here C.hx rfl (pc0 := 39) (pc' := 43) rfl (hb C.hby d4_39) (by decide) (by decide)) ?_
        show Go p e below s n0 _ _ _ (T0.setTop (mkF m 43 #[rv rx, rv la, iv xk.toInt32, .unset] [(.int 1), (.int 1)]))
        refine Go.st (fun _ => XS.iadd X0.here C.hx rfl (hb C.hby d4_43) rfl) ?_
        show Go p e below s n0 _ _ _ (T0.setTop (mkF m 44 #[rv rx, rv la, iv xk.toInt32, .unset] [(.int 2)]))
        refine Go.st (fun _ => XS.aloadN X0.here C.hx rfl (hb C.hby d4_44) rfl rfl) ?_
        show Go p e below s n0 _ _ _ (T0.setTop (mkF m 45 #[rv rx, rv la, iv xk.toInt32, .unset] [(.ref la), (.int 2)]))
        refine Go.st (fun _ => XS.iconst X0.here C.hx rfl (hb C.hby d4_45)) ?_
        show Go p e below s n0 _ _ _ (T0.setTop (mkF m 46 #[rv rx, rv la, iv xk.toInt32, .unset] [(.int 3), (.ref la), (.int 2)]))
        refine Go.iaload C X0 AL (by decide) rfl d4_46 ?_
        show Go p e below s n0 _ _ _ (T0.setTop (mkF m 47 #[rv rx, rv la, iv xk.toInt32, .unset] [(.int g3.toInt32), (.int 2)]))
        refine Go.st (fun _ => XS.iloadN X0.here C.hx rfl (hb C.hby d4_47) rfl) ?_
        show Go p e below s n0 _ _ _ (T0.setTop (mkF m 48 #[rv rx, rv la, iv xk.toInt32, .unset] [(.int xk.toInt32), (.int g3.toInt32), (.int 2)]))
        refine Go.icmp_ne C X0 (pc' := 55) d4_48 (by decide) (by decide) (fun hc48_353 => ?_) (fun hc48_353 => ?_)
        · show Go p e below s n0 _ _ _ (T0.setTop (mkF m 55 #[rv rx, rv la, iv xk.toInt32, .unset] [(.int 2)]))
          refine Go.st (fun _ => XS.iconst X0.here C.hx rfl (hb C.hby d4_55)) ?_
          show Go p e below s n0 _ _ _ (T0.setTop (mkF m 56 #[rv rx, rv la, iv xk.toInt32, .unset] [(.int 0), (.int 2)]))
          refine Go.st (fun _ => XS.iadd X0.here C.hx rfl (hb C.hby d4_56) rfl) ?_
          show Go p e below s n0 _ _ _ (T0.setTop (mkF m 57 #[rv rx, rv la, iv xk.toInt32, .unset] [(.int 2)]))
          refine Go.st (fun _ => XS.istoreN X0.here C.hx rfl (hb C.hby d4_57) rfl (l' := #[rv rx, rv la, iv xk.toInt32, iv 2]) rfl) ?_
          have p0 := eq_true ((eqI (by omega) (by omega)).mp hc10_262).symm
          have p1 := eq_false (fun u : xk = g1 => hc22_334 ((eqI (by omega) (by omega)).mpr u.symm))
          have p2 := eq_true ((eqI (by omega) (by omega)).mp hc35_335).symm
          have p3 := eq_false (fun u : xk = g3 => hc48_353 ((eqI (by omega) (by omega)).mpr u.symm))
          have RL : rowP (fsF g0 g1 g2 g3) tsI 4 4 xk = [(0 : Int32), (2 : Int32)] := by
            simp only [rowP, cnt, fsF0, fsF1, fsF2, fsF3, tsI0, tsI1, tsI2, tsI3, p0, p1, p2, p3, if_true, if_false]
            try rfl
          have AXX : AR Z h0 rx .int [(.int 0), (.int 2)] := by have u := AX; rw [RL] at u; exact u
          show Go p e below s n0 _ _ _ (T0.setTop (mkF m 58 #[rv rx, rv la, iv xk.toInt32, iv 2] []))
          refine Go.st (fun _ => XS.aloadN X0.here C.hx rfl (hb C.hby d4_58) rfl rfl) ?_
          show Go p e below s n0 _ _ _ (T0.setTop (mkF m 59 #[rv rx, rv la, iv xk.toInt32, iv 2] [(.ref rx)]))
          refine Go.alen C X0 AXX (z := (2 : Int32)) rfl d4_59 ?_
          show Go p e below s n0 _ _ _ (T0.setTop (mkF m 60 #[rv rx, rv la, iv xk.toInt32, iv 2] [(.int 2)]))
          refine Go.st (fun _ => XS.iloadN X0.here C.hx rfl (hb C.hby d4_60) rfl) ?_
          show Go p e below s n0 _ _ _ (T0.setTop (mkF m 61 #[rv rx, rv la, iv xk.toInt32, iv 2] [(.int 2), (.int 2)]))
          refine Go.icmp_eq C X0 (pc' := 66) d4_61 (by decide) (by decide) (fun _ => ?_) (fun hc => absurd hc (by decide))
          show Go p e below s n0 _ _ _ (T0.setTop (mkF m 66 #[rv rx, rv la, iv xk.toInt32, iv 2] []))
          refine Go.st (fun _ => XS.iloadN X0.here C.hx rfl (hb C.hby d4_66) rfl) ?_
          show Go p e below s n0 _ _ _ (T0.setTop (mkF m 67 #[rv rx, rv la, iv xk.toInt32, iv 2] [(.int 2)]))
          refine Go.if_le C X0 (pc' := 84) d4_67 (by decide) (by decide) (fun hc => absurd hc (by decide)) (fun _ => ?_)
          show Go p e below s n0 _ _ _ (T0.setTop (mkF m 70 #[rv rx, rv la, iv xk.toInt32, iv 2] []))
          refine Go.st (fun _ => XS.aloadN X0.here C.hx rfl (hb C.hby d4_70) rfl rfl) ?_
          show Go p e below s n0 _ _ _ (T0.setTop (mkF m 71 #[rv rx, rv la, iv xk.toInt32, iv 2] [(.ref rx)]))
          refine Go.st (fun _ => XS.iconst X0.here C.hx rfl (hb C.hby d4_71)) ?_
          show Go p e below s n0 _ _ _ (T0.setTop (mkF m 72 #[rv rx, rv la, iv xk.toInt32, iv 2] [(.int 0), (.ref rx)]))
          refine Go.iaload C X0 AXX (by decide) rfl d4_72 ?_
          show Go p e below s n0 _ _ _ (T0.setTop (mkF m 73 #[rv rx, rv la, iv xk.toInt32, iv 2] [(.int 0)]))
          refine Go.st (fun _ => XS.aloadN X0.here C.hx rfl (hb C.hby d4_73) rfl rfl) ?_
          show Go p e below s n0 _ _ _ (T0.setTop (mkF m 74 #[rv rx, rv la, iv xk.toInt32, iv 2] [(.ref la), (.int 0)]))
          refine Go.st (fun _ => XS.iloadN X0.here C.hx rfl (hb C.hby d4_74) rfl) ?_
          show Go p e below s n0 _ _ _ (T0.setTop (mkF m 75 #[rv rx, rv la, iv xk.toInt32, iv 2] [(.int xk.toInt32), (.ref la), (.int 0)]))
          refine Go.st (fun _ => XS.iconst X0.here C.hx rfl (hb C.hby d4_75)) ?_
          show Go p e below s n0 _ _ _ (T0.setTop (mkF m 76 #[rv rx, rv la, iv xk.toInt32, iv 2] [(.int 0), (.int xk.toInt32), (.ref la), (.int 0)]))
          refine Go.callS C X0 (W := 1) (argsL := [(.ref la), (.int xk.toInt32), (.int 0)]) (rest := [(.int 0)]) (wd 36 rfl) (wd 37 rfl) (wd 34 rfl) (wd 38 rfl) (by decide) (con_kth0 l Z a0 hw n0 h0 X0.size la xk.toInt32 g0 g1 g2 g3 AL) (by decide) (by decide) rfl (lenOf pd_5 rfl) (Nat.le_of_ble_eq_true rfl) rfl d4_76 (by decide) (by decide) (fun T356 h356 v356 X356 hQ356 => ?_)
          obtain ⟨rfl, hh356⟩ := hQ356
          rw [hh356] at X356
          rw [show kthF g0.toInt32 g1.toInt32 g2.toInt32 g3.toInt32 xk.toInt32 0 = (0 : Int32) from by simp [kthF, hc10_262, hc22_334, hc35_335, hc48_353]]
          show Go p e below s n0 _ _ _ (T356.setTop (mkF m 79 #[rv rx, rv la, iv xk.toInt32, iv 2] [(.int 0), (.int 0)]))
          refine Go.icmp_eq C X356 (pc' := 84) d4_79 (by decide) (by decide) (fun _ => ?_) (fun hc => absurd hc (by decide))
          show Go p e below s n0 _ _ _ (T356.setTop (mkF m 84 #[rv rx, rv la, iv xk.toInt32, iv 2] []))
          refine Go.st (fun _ => XS.iloadN X356.here C.hx rfl (hb C.hby d4_84) rfl) ?_
          show Go p e below s n0 _ _ _ (T356.setTop (mkF m 85 #[rv rx, rv la, iv xk.toInt32, iv 2] [(.int 2)]))
          refine Go.st (fun _ => XS.iconst X356.here C.hx rfl (hb C.hby d4_85)) ?_
          show Go p e below s n0 _ _ _ (T356.setTop (mkF m 86 #[rv rx, rv la, iv xk.toInt32, iv 2] [(.int 1), (.int 2)]))
          refine Go.icmp_le C X356 (pc' := 103) d4_86 (by decide) (by decide) (fun hc => absurd hc (by decide)) (fun _ => ?_)
          show Go p e below s n0 _ _ _ (T356.setTop (mkF m 89 #[rv rx, rv la, iv xk.toInt32, iv 2] []))
          refine Go.st (fun _ => XS.aloadN X356.here C.hx rfl (hb C.hby d4_89) rfl rfl) ?_
          show Go p e below s n0 _ _ _ (T356.setTop (mkF m 90 #[rv rx, rv la, iv xk.toInt32, iv 2] [(.ref rx)]))
          refine Go.st (fun _ => XS.iconst X356.here C.hx rfl (hb C.hby d4_90)) ?_
          show Go p e below s n0 _ _ _ (T356.setTop (mkF m 91 #[rv rx, rv la, iv xk.toInt32, iv 2] [(.int 1), (.ref rx)]))
          refine Go.iaload C X356 AXX (by decide) rfl d4_91 ?_
          show Go p e below s n0 _ _ _ (T356.setTop (mkF m 92 #[rv rx, rv la, iv xk.toInt32, iv 2] [(.int 2)]))
          refine Go.st (fun _ => XS.aloadN X356.here C.hx rfl (hb C.hby d4_92) rfl rfl) ?_
          show Go p e below s n0 _ _ _ (T356.setTop (mkF m 93 #[rv rx, rv la, iv xk.toInt32, iv 2] [(.ref la), (.int 2)]))
          refine Go.st (fun _ => XS.iloadN X356.here C.hx rfl (hb C.hby d4_93) rfl) ?_
          show Go p e below s n0 _ _ _ (T356.setTop (mkF m 94 #[rv rx, rv la, iv xk.toInt32, iv 2] [(.int xk.toInt32), (.ref la), (.int 2)]))
          refine Go.st (fun _ => XS.iconst X356.here C.hx rfl (hb C.hby d4_94)) ?_
          show Go p e below s n0 _ _ _ (T356.setTop (mkF m 95 #[rv rx, rv la, iv xk.toInt32, iv 2] [(.int 1), (.int xk.toInt32), (.ref la), (.int 2)]))
          refine Go.callS C X356 (W := 1) (argsL := [(.ref la), (.int xk.toInt32), (.int 1)]) (rest := [(.int 2)]) (wd 36 rfl) (wd 37 rfl) (wd 34 rfl) (wd 38 rfl) (by decide) (con_kth1 l Z a0 hw n0 h0 X356.size la xk.toInt32 g0 g1 g2 g3 AL) (by decide) (by decide) rfl (lenOf pd_5 rfl) (Nat.le_of_ble_eq_true rfl) rfl d4_95 (by decide) (by decide) (fun T359 h359 v359 X359 hQ359 => ?_)
          obtain ⟨rfl, hh359⟩ := hQ359
          rw [hh359] at X359
          rw [show kthF g0.toInt32 g1.toInt32 g2.toInt32 g3.toInt32 xk.toInt32 1 = (2 : Int32) from by simp [kthF, hc10_262, hc22_334, hc35_335, hc48_353]]
          show Go p e below s n0 _ _ _ (T359.setTop (mkF m 98 #[rv rx, rv la, iv xk.toInt32, iv 2] [(.int 2), (.int 2)]))
          refine Go.icmp_eq C X359 (pc' := 103) d4_98 (by decide) (by decide) (fun _ => ?_) (fun hc => absurd hc (by decide))
          show Go p e below s n0 _ _ _ (T359.setTop (mkF m 103 #[rv rx, rv la, iv xk.toInt32, iv 2] []))
          refine Go.st (fun _ => XS.iloadN X359.here C.hx rfl (hb C.hby d4_103) rfl) ?_
          show Go p e below s n0 _ _ _ (T359.setTop (mkF m 104 #[rv rx, rv la, iv xk.toInt32, iv 2] [(.int 2)]))
          refine Go.st (fun _ => XS.iconst X359.here C.hx rfl (hb C.hby d4_104)) ?_
          show Go p e below s n0 _ _ _ (T359.setTop (mkF m 105 #[rv rx, rv la, iv xk.toInt32, iv 2] [(.int 2), (.int 2)]))
          refine Go.icmp_le C X359 (pc' := 122) d4_105 (by decide) (by decide) (fun _ => ?_) (fun hc => absurd hc (by decide))
          show Go p e below s n0 _ _ _ (T359.setTop (mkF m 122 #[rv rx, rv la, iv xk.toInt32, iv 2] []))
          refine Go.st (fun _ => XS.iloadN X359.here C.hx rfl (hb C.hby d4_122) rfl) ?_
          show Go p e below s n0 _ _ _ (T359.setTop (mkF m 123 #[rv rx, rv la, iv xk.toInt32, iv 2] [(.int 2)]))
          refine Go.st (fun _ => XS.iconst X359.here C.hx rfl (hb C.hby d4_123)) ?_
          show Go p e below s n0 _ _ _ (T359.setTop (mkF m 124 #[rv rx, rv la, iv xk.toInt32, iv 2] [(.int 3), (.int 2)]))
          refine Go.icmp_le C X359 (pc' := 141) d4_124 (by decide) (by decide) (fun _ => ?_) (fun hc => absurd hc (by decide))
          show Go p e below s n0 _ _ _ (T359.setTop (mkF m 141 #[rv rx, rv la, iv xk.toInt32, iv 2] []))
          refine Go.st (fun _ => XS.iconst X359.here C.hx rfl (hb C.hby d4_141)) ?_
          show Go p e below s n0 _ _ _ (T359.setTop (mkF m 142 #[rv rx, rv la, iv xk.toInt32, iv 2] [(.int 1)]))
          exact Go.retZ C X359 (by decide) d4_142 ⟨rfl, rfl⟩ (by decide) (by decide)
        · show Go p e below s n0 _ _ _ (T0.setTop (mkF m 51 #[rv rx, rv la, iv xk.toInt32, .unset] [(.int 2)]))
          refine Go.st (fun _ => XS.iconst X0.here C.hx rfl (hb C.hby d4_51)) ?_
          show Go p e below s n0 _ _ _ (T0.setTop (mkF m 52 #[rv rx, rv la, iv xk.toInt32, .unset] [(.int 1), (.int 2)]))
          refine Go.st (fun _ => XS.goto X0.here C.hx rfl (pc0 := 52) (pc' := 56) rfl (hb C.hby d4_52) (by decide) (by decide)) ?_
          show Go p e below s n0 _ _ _ (T0.setTop (mkF m 56 #[rv rx, rv la, iv xk.toInt32, .unset] [(.int 1), (.int 2)]))
          refine Go.st (fun _ => XS.iadd X0.here C.hx rfl (hb C.hby d4_56) rfl) ?_
          show Go p e below s n0 _ _ _ (T0.setTop (mkF m 57 #[rv rx, rv la, iv xk.toInt32, .unset] [(.int 3)]))
          refine Go.st (fun _ => XS.istoreN X0.here C.hx rfl (hb C.hby d4_57) rfl (l' := #[rv rx, rv la, iv xk.toInt32, iv 3]) rfl) ?_
          have p0 := eq_true ((eqI (by omega) (by omega)).mp hc10_262).symm
          have p1 := eq_false (fun u : xk = g1 => hc22_334 ((eqI (by omega) (by omega)).mpr u.symm))
          have p2 := eq_true ((eqI (by omega) (by omega)).mp hc35_335).symm
          have p3 := eq_true ((eqI (by omega) (by omega)).mp hc48_353).symm
          have RL : rowP (fsF g0 g1 g2 g3) tsI 4 4 xk = [(0 : Int32), (2 : Int32), (3 : Int32)] := by
            simp only [rowP, cnt, fsF0, fsF1, fsF2, fsF3, tsI0, tsI1, tsI2, tsI3, p0, p1, p2, p3, if_true, if_false]
            try rfl
          have AXX : AR Z h0 rx .int [(.int 0), (.int 2), (.int 3)] := by have u := AX; rw [RL] at u; exact u
          show Go p e below s n0 _ _ _ (T0.setTop (mkF m 58 #[rv rx, rv la, iv xk.toInt32, iv 3] []))
          refine Go.st (fun _ => XS.aloadN X0.here C.hx rfl (hb C.hby d4_58) rfl rfl) ?_
          show Go p e below s n0 _ _ _ (T0.setTop (mkF m 59 #[rv rx, rv la, iv xk.toInt32, iv 3] [(.ref rx)]))
          refine Go.alen C X0 AXX (z := (3 : Int32)) rfl d4_59 ?_
          show Go p e below s n0 _ _ _ (T0.setTop (mkF m 60 #[rv rx, rv la, iv xk.toInt32, iv 3] [(.int 3)]))
          refine Go.st (fun _ => XS.iloadN X0.here C.hx rfl (hb C.hby d4_60) rfl) ?_
          show Go p e below s n0 _ _ _ (T0.setTop (mkF m 61 #[rv rx, rv la, iv xk.toInt32, iv 3] [(.int 3), (.int 3)]))
          refine Go.icmp_eq C X0 (pc' := 66) d4_61 (by decide) (by decide) (fun _ => ?_) (fun hc => absurd hc (by decide))
          show Go p e below s n0 _ _ _ (T0.setTop (mkF m 66 #[rv rx, rv la, iv xk.toInt32, iv 3] []))
          refine Go.st (fun _ => XS.iloadN X0.here C.hx rfl (hb C.hby d4_66) rfl) ?_
          show Go p e below s n0 _ _ _ (T0.setTop (mkF m 67 #[rv rx, rv la, iv xk.toInt32, iv 3] [(.int 3)]))
          refine Go.if_le C X0 (pc' := 84) d4_67 (by decide) (by decide) (fun hc => absurd hc (by decide)) (fun _ => ?_)
          show Go p e below s n0 _ _ _ (T0.setTop (mkF m 70 #[rv rx, rv la, iv xk.toInt32, iv 3] []))
          refine Go.st (fun _ => XS.aloadN X0.here C.hx rfl (hb C.hby d4_70) rfl rfl) ?_
          show Go p e below s n0 _ _ _ (T0.setTop (mkF m 71 #[rv rx, rv la, iv xk.toInt32, iv 3] [(.ref rx)]))
          refine Go.st (fun _ => XS.iconst X0.here C.hx rfl (hb C.hby d4_71)) ?_
          show Go p e below s n0 _ _ _ (T0.setTop (mkF m 72 #[rv rx, rv la, iv xk.toInt32, iv 3] [(.int 0), (.ref rx)]))
          refine Go.iaload C X0 AXX (by decide) rfl d4_72 ?_
          show Go p e below s n0 _ _ _ (T0.setTop (mkF m 73 #[rv rx, rv la, iv xk.toInt32, iv 3] [(.int 0)]))
          refine Go.st (fun _ => XS.aloadN X0.here C.hx rfl (hb C.hby d4_73) rfl rfl) ?_
          show Go p e below s n0 _ _ _ (T0.setTop (mkF m 74 #[rv rx, rv la, iv xk.toInt32, iv 3] [(.ref la), (.int 0)]))
          refine Go.st (fun _ => XS.iloadN X0.here C.hx rfl (hb C.hby d4_74) rfl) ?_
          show Go p e below s n0 _ _ _ (T0.setTop (mkF m 75 #[rv rx, rv la, iv xk.toInt32, iv 3] [(.int xk.toInt32), (.ref la), (.int 0)]))
          refine Go.st (fun _ => XS.iconst X0.here C.hx rfl (hb C.hby d4_75)) ?_
          show Go p e below s n0 _ _ _ (T0.setTop (mkF m 76 #[rv rx, rv la, iv xk.toInt32, iv 3] [(.int 0), (.int xk.toInt32), (.ref la), (.int 0)]))
          refine Go.callS C X0 (W := 1) (argsL := [(.ref la), (.int xk.toInt32), (.int 0)]) (rest := [(.int 0)]) (wd 36 rfl) (wd 37 rfl) (wd 34 rfl) (wd 38 rfl) (by decide) (con_kth0 l Z a0 hw n0 h0 X0.size la xk.toInt32 g0 g1 g2 g3 AL) (by decide) (by decide) rfl (lenOf pd_5 rfl) (Nat.le_of_ble_eq_true rfl) rfl d4_76 (by decide) (by decide) (fun T365 h365 v365 X365 hQ365 => ?_)
          obtain ⟨rfl, hh365⟩ := hQ365
          rw [hh365] at X365
          rw [show kthF g0.toInt32 g1.toInt32 g2.toInt32 g3.toInt32 xk.toInt32 0 = (0 : Int32) from by simp [kthF, hc10_262, hc22_334, hc35_335, hc48_353]]
          show Go p e below s n0 _ _ _ (T365.setTop (mkF m 79 #[rv rx, rv la, iv xk.toInt32, iv 3] [(.int 0), (.int 0)]))
          refine Go.icmp_eq C X365 (pc' := 84) d4_79 (by decide) (by decide) (fun _ => ?_) (fun hc => absurd hc (by decide))
          show Go p e below s n0 _ _ _ (T365.setTop (mkF m 84 #[rv rx, rv la, iv xk.toInt32, iv 3] []))
          refine Go.st (fun _ => XS.iloadN X365.here C.hx rfl (hb C.hby d4_84) rfl) ?_
          show Go p e below s n0 _ _ _ (T365.setTop (mkF m 85 #[rv rx, rv la, iv xk.toInt32, iv 3] [(.int 3)]))
          refine Go.st (fun _ => XS.iconst X365.here C.hx rfl (hb C.hby d4_85)) ?_
          show Go p e below s n0 _ _ _ (T365.setTop (mkF m 86 #[rv rx, rv la, iv xk.toInt32, iv 3] [(.int 1), (.int 3)]))
          refine Go.icmp_le C X365 (pc' := 103) d4_86 (by decide) (by decide) (fun hc => absurd hc (by decide)) (fun _ => ?_)
          show Go p e below s n0 _ _ _ (T365.setTop (mkF m 89 #[rv rx, rv la, iv xk.toInt32, iv 3] []))
          refine Go.st (fun _ => XS.aloadN X365.here C.hx rfl (hb C.hby d4_89) rfl rfl) ?_
          show Go p e below s n0 _ _ _ (T365.setTop (mkF m 90 #[rv rx, rv la, iv xk.toInt32, iv 3] [(.ref rx)]))
          refine Go.st (fun _ => XS.iconst X365.here C.hx rfl (hb C.hby d4_90)) ?_
          show Go p e below s n0 _ _ _ (T365.setTop (mkF m 91 #[rv rx, rv la, iv xk.toInt32, iv 3] [(.int 1), (.ref rx)]))
          refine Go.iaload C X365 AXX (by decide) rfl d4_91 ?_
          show Go p e below s n0 _ _ _ (T365.setTop (mkF m 92 #[rv rx, rv la, iv xk.toInt32, iv 3] [(.int 2)]))
          refine Go.st (fun _ => XS.aloadN X365.here C.hx rfl (hb C.hby d4_92) rfl rfl) ?_
          show Go p e below s n0 _ _ _ (T365.setTop (mkF m 93 #[rv rx, rv la, iv xk.toInt32, iv 3] [(.ref la), (.int 2)]))
          refine Go.st (fun _ => XS.iloadN X365.here C.hx rfl (hb C.hby d4_93) rfl) ?_
          show Go p e below s n0 _ _ _ (T365.setTop (mkF m 94 #[rv rx, rv la, iv xk.toInt32, iv 3] [(.int xk.toInt32), (.ref la), (.int 2)]))
          refine Go.st (fun _ => XS.iconst X365.here C.hx rfl (hb C.hby d4_94)) ?_
          show Go p e below s n0 _ _ _ (T365.setTop (mkF m 95 #[rv rx, rv la, iv xk.toInt32, iv 3] [(.int 1), (.int xk.toInt32), (.ref la), (.int 2)]))
          refine Go.callS C X365 (W := 1) (argsL := [(.ref la), (.int xk.toInt32), (.int 1)]) (rest := [(.int 2)]) (wd 36 rfl) (wd 37 rfl) (wd 34 rfl) (wd 38 rfl) (by decide) (con_kth1 l Z a0 hw n0 h0 X365.size la xk.toInt32 g0 g1 g2 g3 AL) (by decide) (by decide) rfl (lenOf pd_5 rfl) (Nat.le_of_ble_eq_true rfl) rfl d4_95 (by decide) (by decide) (fun T368 h368 v368 X368 hQ368 => ?_)
          obtain ⟨rfl, hh368⟩ := hQ368
          rw [hh368] at X368
          rw [show kthF g0.toInt32 g1.toInt32 g2.toInt32 g3.toInt32 xk.toInt32 1 = (2 : Int32) from by simp [kthF, hc10_262, hc22_334, hc35_335, hc48_353]]
          show Go p e below s n0 _ _ _ (T368.setTop (mkF m 98 #[rv rx, rv la, iv xk.toInt32, iv 3] [(.int 2), (.int 2)]))
          refine Go.icmp_eq C X368 (pc' := 103) d4_98 (by decide) (by decide) (fun _ => ?_) (fun hc => absurd hc (by decide))
          show Go p e below s n0 _ _ _ (T368.setTop (mkF m 103 #[rv rx, rv la, iv xk.toInt32, iv 3] []))
          refine Go.st (fun _ => XS.iloadN X368.here C.hx rfl (hb C.hby d4_103) rfl) ?_
          show Go p e below s n0 _ _ _ (T368.setTop (mkF m 104 #[rv rx, rv la, iv xk.toInt32, iv 3] [(.int 3)]))
          refine Go.st (fun _ => XS.iconst X368.here C.hx rfl (hb C.hby d4_104)) ?_
          show Go p e below s n0 _ _ _ (T368.setTop (mkF m 105 #[rv rx, rv la, iv xk.toInt32, iv 3] [(.int 2), (.int 3)]))
          refine Go.icmp_le C X368 (pc' := 122) d4_105 (by decide) (by decide) (fun hc => absurd hc (by decide)) (fun _ => ?_)
          show Go p e below s n0 _ _ _ (T368.setTop (mkF m 108 #[rv rx, rv la, iv xk.toInt32, iv 3] []))
          refine Go.st (fun _ => XS.aloadN X368.here C.hx rfl (hb C.hby d4_108) rfl rfl) ?_
          show Go p e below s n0 _ _ _ (T368.setTop (mkF m 109 #[rv rx, rv la, iv xk.toInt32, iv 3] [(.ref rx)]))
          refine Go.st (fun _ => XS.iconst X368.here C.hx rfl (hb C.hby d4_109)) ?_
          show Go p e below s n0 _ _ _ (T368.setTop (mkF m 110 #[rv rx, rv la, iv xk.toInt32, iv 3] [(.int 2), (.ref rx)]))
          refine Go.iaload C X368 AXX (by decide) rfl d4_110 ?_
          show Go p e below s n0 _ _ _ (T368.setTop (mkF m 111 #[rv rx, rv la, iv xk.toInt32, iv 3] [(.int 3)]))
          refine Go.st (fun _ => XS.aloadN X368.here C.hx rfl (hb C.hby d4_111) rfl rfl) ?_
          show Go p e below s n0 _ _ _ (T368.setTop (mkF m 112 #[rv rx, rv la, iv xk.toInt32, iv 3] [(.ref la), (.int 3)]))
          refine Go.st (fun _ => XS.iloadN X368.here C.hx rfl (hb C.hby d4_112) rfl) ?_
          show Go p e below s n0 _ _ _ (T368.setTop (mkF m 113 #[rv rx, rv la, iv xk.toInt32, iv 3] [(.int xk.toInt32), (.ref la), (.int 3)]))
          refine Go.st (fun _ => XS.iconst X368.here C.hx rfl (hb C.hby d4_113)) ?_
          show Go p e below s n0 _ _ _ (T368.setTop (mkF m 114 #[rv rx, rv la, iv xk.toInt32, iv 3] [(.int 2), (.int xk.toInt32), (.ref la), (.int 3)]))
          refine Go.callS C X368 (W := 1) (argsL := [(.ref la), (.int xk.toInt32), (.int 2)]) (rest := [(.int 3)]) (wd 36 rfl) (wd 37 rfl) (wd 34 rfl) (wd 38 rfl) (by decide) (con_kth2 l Z a0 hw n0 h0 X368.size la xk.toInt32 g0 g1 g2 g3 AL) (by decide) (by decide) rfl (lenOf pd_5 rfl) (Nat.le_of_ble_eq_true rfl) rfl d4_114 (by decide) (by decide) (fun T371 h371 v371 X371 hQ371 => ?_)
          obtain ⟨rfl, hh371⟩ := hQ371
          rw [hh371] at X371
          rw [show kthF g0.toInt32 g1.toInt32 g2.toInt32 g3.toInt32 xk.toInt32 2 = (3 : Int32) from by simp [kthF, hc10_262, hc22_334, hc35_335, hc48_353]]
          show Go p e below s n0 _ _ _ (T371.setTop (mkF m 117 #[rv rx, rv la, iv xk.toInt32, iv 3] [(.int 3), (.int 3)]))
          refine Go.icmp_eq C X371 (pc' := 122) d4_117 (by decide) (by decide) (fun _ => ?_) (fun hc => absurd hc (by decide))
          show Go p e below s n0 _ _ _ (T371.setTop (mkF m 122 #[rv rx, rv la, iv xk.toInt32, iv 3] []))
          refine Go.st (fun _ => XS.iloadN X371.here C.hx rfl (hb C.hby d4_122) rfl) ?_
          show Go p e below s n0 _ _ _ (T371.setTop (mkF m 123 #[rv rx, rv la, iv xk.toInt32, iv 3] [(.int 3)]))
          refine Go.st (fun _ => XS.iconst X371.here C.hx rfl (hb C.hby d4_123)) ?_
          show Go p e below s n0 _ _ _ (T371.setTop (mkF m 124 #[rv rx, rv la, iv xk.toInt32, iv 3] [(.int 3), (.int 3)]))
          refine Go.icmp_le C X371 (pc' := 141) d4_124 (by decide) (by decide) (fun _ => ?_) (fun hc => absurd hc (by decide))
          show Go p e below s n0 _ _ _ (T371.setTop (mkF m 141 #[rv rx, rv la, iv xk.toInt32, iv 3] []))
          refine Go.st (fun _ => XS.iconst X371.here C.hx rfl (hb C.hby d4_141)) ?_
          show Go p e below s n0 _ _ _ (T371.setTop (mkF m 142 #[rv rx, rv la, iv xk.toInt32, iv 3] [(.int 1)]))
          exact Go.retZ C X371 (by decide) d4_142 ⟨rfl, rfl⟩ (by decide) (by decide)
    · show Go p e below s n0 _ _ _ (T0.setTop (mkF m 25 #[rv rx, rv la, iv xk.toInt32, .unset] [(.int 1)]))
      refine Go.st (fun _ => XS.iconst X0.here C.hx rfl (hb C.hby d4_25)) ?_
      show Go p e below s n0 _ _ _ (T0.setTop (mkF m 26 #[rv rx, rv la, iv xk.toInt32, .unset] [(.int 1), (.int 1)]))
      refine Go.st (fun _ => XS.goto X0.here C.hx rfl (pc0 := 26) (pc' := 30) rfl (hb C.hby d4_26) (by decide) (by decide)) ?_
      show Go p e below s n0 _ _ _ (T0.setTop (mkF m 30 #[rv rx, rv la, iv xk.toInt32, .unset] [(.int 1), (.int 1)]))
      refine Go.st (fun _ => XS.iadd X0.here C.hx rfl (hb C.hby d4_30) rfl) ?_
      show Go p e below s n0 _ _ _ (T0.setTop (mkF m 31 #[rv rx, rv la, iv xk.toInt32, .unset] [(.int 2)]))
      refine Go.st (fun _ => XS.aloadN X0.here C.hx rfl (hb C.hby d4_31) rfl rfl) ?_
      show Go p e below s n0 _ _ _ (T0.setTop (mkF m 32 #[rv rx, rv la, iv xk.toInt32, .unset] [(.ref la), (.int 2)]))
      refine Go.st (fun _ => XS.iconst X0.here C.hx rfl (hb C.hby d4_32)) ?_
      show Go p e below s n0 _ _ _ (T0.setTop (mkF m 33 #[rv rx, rv la, iv xk.toInt32, .unset] [(.int 2), (.ref la), (.int 2)]))
      refine Go.iaload C X0 AL (by decide) rfl d4_33 ?_
      show Go p e below s n0 _ _ _ (T0.setTop (mkF m 34 #[rv rx, rv la, iv xk.toInt32, .unset] [(.int g2.toInt32), (.int 2)]))
      refine Go.st (fun _ => XS.iloadN X0.here C.hx rfl (hb C.hby d4_34) rfl) ?_
      show Go p e below s n0 _ _ _ (T0.setTop (mkF m 35 #[rv rx, rv la, iv xk.toInt32, .unset] [(.int xk.toInt32), (.int g2.toInt32), (.int 2)]))
      refine Go.icmp_ne C X0 (pc' := 42) d4_35 (by decide) (by decide) (fun hc35_374 => ?_) (fun hc35_374 => ?_)
      · show Go p e below s n0 _ _ _ (T0.setTop (mkF m 42 #[rv rx, rv la, iv xk.toInt32, .unset] [(.int 2)]))
        refine Go.st (fun _ => XS.iconst X0.here C.hx rfl (hb C.hby d4_42)) ?_
        show Go p e below s n0 _ _ _ (T0.setTop (mkF m 43 #[rv rx, rv la, iv xk.toInt32, .unset] [(.int 0), (.int 2)]))
        refine Go.st (fun _ => XS.iadd X0.here C.hx rfl (hb C.hby d4_43) rfl) ?_
        show Go p e below s n0 _ _ _ (T0.setTop (mkF m 44 #[rv rx, rv la, iv xk.toInt32, .unset] [(.int 2)]))
        refine Go.st (fun _ => XS.aloadN X0.here C.hx rfl (hb C.hby d4_44) rfl rfl) ?_
        show Go p e below s n0 _ _ _ (T0.setTop (mkF m 45 #[rv rx, rv la, iv xk.toInt32, .unset] [(.ref la), (.int 2)]))
        refine Go.st (fun _ => XS.iconst X0.here C.hx rfl (hb C.hby d4_45)) ?_
        show Go p e below s n0 _ _ _ (T0.setTop (mkF m 46 #[rv rx, rv la, iv xk.toInt32, .unset] [(.int 3), (.ref la), (.int 2)]))
        refine Go.iaload C X0 AL (by decide) rfl d4_46 ?_
        show Go p e below s n0 _ _ _ (T0.setTop (mkF m 47 #[rv rx, rv la, iv xk.toInt32, .unset] [(.int g3.toInt32), (.int 2)]))
        refine Go.st (fun _ => XS.iloadN X0.here C.hx rfl (hb C.hby d4_47) rfl) ?_
        show Go p e below s n0 _ _ _ (T0.setTop (mkF m 48 #[rv rx, rv la, iv xk.toInt32, .unset] [(.int xk.toInt32), (.int g3.toInt32), (.int 2)]))
        refine Go.icmp_ne C X0 (pc' := 55) d4_48 (by decide) (by decide) (fun hc48_375 => ?_) (fun hc48_375 => ?_)
        · show Go p e below s n0 _ _ _ (T0.setTop (mkF m 55 #[rv rx, rv la, iv xk.toInt32, .unset] [(.int 2)]))
          refine Go.st (fun _ => XS.iconst X0.here C.hx rfl (hb C.hby d4_55)) ?_
          show Go p e below s n0 _ _ _ (T0.setTop (mkF m 56 #[rv rx, rv la, iv xk.toInt32, .unset] [(.int 0), (.int 2)]))
          refine Go.st (fun _ => XS.iadd X0.here C.hx rfl (hb C.hby d4_56) rfl) ?_
          show Go p e below s n0 _ _ _ (T0.setTop (mkF m 57 #[rv rx, rv la, iv xk.toInt32, .unset] [(.int 2)]))
          refine Go.st (fun _ => XS.istoreN X0.here C.hx rfl (hb C.hby d4_57) rfl (l' := #[rv rx, rv la, iv xk.toInt32, iv 2]) rfl) ?_
          have p0 := eq_true ((eqI (by omega) (by omega)).mp hc10_262).symm
          have p1 := eq_true ((eqI (by omega) (by omega)).mp hc22_334).symm
          have p2 := eq_false (fun u : xk = g2 => hc35_374 ((eqI (by omega) (by omega)).mpr u.symm))
          have p3 := eq_false (fun u : xk = g3 => hc48_375 ((eqI (by omega) (by omega)).mpr u.symm))
          have RL : rowP (fsF g0 g1 g2 g3) tsI 4 4 xk = [(0 : Int32), (1 : Int32)] := by
            simp only [rowP, cnt, fsF0, fsF1, fsF2, fsF3, tsI0, tsI1, tsI2, tsI3, p0, p1, p2, p3, if_true, if_false]
            try rfl
          have AXX : AR Z h0 rx .int [(.int 0), (.int 1)] := by have u := AX; rw [RL] at u; exact u
          show Go p e below s n0 _ _ _ (T0.setTop (mkF m 58 #[rv rx, rv la, iv xk.toInt32, iv 2] []))
          refine Go.st (fun _ => XS.aloadN X0.here C.hx rfl (hb C.hby d4_58) rfl rfl) ?_
          show Go p e below s n0 _ _ _ (T0.setTop (mkF m 59 #[rv rx, rv la, iv xk.toInt32, iv 2] [(.ref rx)]))
          refine Go.alen C X0 AXX (z := (2 : Int32)) rfl d4_59 ?_
          show Go p e below s n0 _ _ _ (T0.setTop (mkF m 60 #[rv rx, rv la, iv xk.toInt32, iv 2] [(.int 2)]))
          refine Go.st (fun _ => XS.iloadN X0.here C.hx rfl (hb C.hby d4_60) rfl) ?_
          show Go p e below s n0 _ _ _ (T0.setTop (mkF m 61 #[rv rx, rv la, iv xk.toInt32, iv 2] [(.int 2), (.int 2)]))
          refine Go.icmp_eq C X0 (pc' := 66) d4_61 (by decide) (by decide) (fun _ => ?_) (fun hc => absurd hc (by decide))
          show Go p e below s n0 _ _ _ (T0.setTop (mkF m 66 #[rv rx, rv la, iv xk.toInt32, iv 2] []))
          refine Go.st (fun _ => XS.iloadN X0.here C.hx rfl (hb C.hby d4_66) rfl) ?_
          show Go p e below s n0 _ _ _ (T0.setTop (mkF m 67 #[rv rx, rv la, iv xk.toInt32, iv 2] [(.int 2)]))
          refine Go.if_le C X0 (pc' := 84) d4_67 (by decide) (by decide) (fun hc => absurd hc (by decide)) (fun _ => ?_)
          show Go p e below s n0 _ _ _ (T0.setTop (mkF m 70 #[rv rx, rv la, iv xk.toInt32, iv 2] []))
          refine Go.st (fun _ => XS.aloadN X0.here C.hx rfl (hb C.hby d4_70) rfl rfl) ?_
          show Go p e below s n0 _ _ _ (T0.setTop (mkF m 71 #[rv rx, rv la, iv xk.toInt32, iv 2] [(.ref rx)]))
          refine Go.st (fun _ => XS.iconst X0.here C.hx rfl (hb C.hby d4_71)) ?_
          show Go p e below s n0 _ _ _ (T0.setTop (mkF m 72 #[rv rx, rv la, iv xk.toInt32, iv 2] [(.int 0), (.ref rx)]))
          refine Go.iaload C X0 AXX (by decide) rfl d4_72 ?_
          show Go p e below s n0 _ _ _ (T0.setTop (mkF m 73 #[rv rx, rv la, iv xk.toInt32, iv 2] [(.int 0)]))
          refine Go.st (fun _ => XS.aloadN X0.here C.hx rfl (hb C.hby d4_73) rfl rfl) ?_
          show Go p e below s n0 _ _ _ (T0.setTop (mkF m 74 #[rv rx, rv la, iv xk.toInt32, iv 2] [(.ref la), (.int 0)]))
          refine Go.st (fun _ => XS.iloadN X0.here C.hx rfl (hb C.hby d4_74) rfl) ?_
          show Go p e below s n0 _ _ _ (T0.setTop (mkF m 75 #[rv rx, rv la, iv xk.toInt32, iv 2] [(.int xk.toInt32), (.ref la), (.int 0)]))
          refine Go.st (fun _ => XS.iconst X0.here C.hx rfl (hb C.hby d4_75)) ?_
          show Go p e below s n0 _ _ _ (T0.setTop (mkF m 76 #[rv rx, rv la, iv xk.toInt32, iv 2] [(.int 0), (.int xk.toInt32), (.ref la), (.int 0)]))
          refine Go.callS C X0 (W := 1) (argsL := [(.ref la), (.int xk.toInt32), (.int 0)]) (rest := [(.int 0)]) (wd 36 rfl) (wd 37 rfl) (wd 34 rfl) (wd 38 rfl) (by decide) (con_kth0 l Z a0 hw n0 h0 X0.size la xk.toInt32 g0 g1 g2 g3 AL) (by decide) (by decide) rfl (lenOf pd_5 rfl) (Nat.le_of_ble_eq_true rfl) rfl d4_76 (by decide) (by decide) (fun T378 h378 v378 X378 hQ378 => ?_)
          obtain ⟨rfl, hh378⟩ := hQ378
          rw [hh378] at X378
          rw [show kthF g0.toInt32 g1.toInt32 g2.toInt32 g3.toInt32 xk.toInt32 0 = (0 : Int32) from by simp [kthF, hc10_262, hc22_334, hc35_374, hc48_375]]
          show Go p e below s n0 _ _ _ (T378.setTop (mkF m 79 #[rv rx, rv la, iv xk.toInt32, iv 2] [(.int 0), (.int 0)]))
          refine Go.icmp_eq C X378 (pc' := 84) d4_79 (by decide) (by decide) (fun _ => ?_) (fun hc => absurd hc (by decide))
          show Go p e below s n0 _ _ _ (T378.setTop (mkF m 84 #[rv rx, rv la, iv xk.toInt32, iv 2] []))
          refine Go.st (fun _ => XS.iloadN X378.here C.hx rfl (hb C.hby d4_84) rfl) ?_
          show Go p e below s n0 _ _ _ (T378.setTop (mkF m 85 #[rv rx, rv la, iv xk.toInt32, iv 2] [(.int 2)]))
          refine Go.st (fun _ => XS.iconst X378.here C.hx rfl (hb C.hby d4_85)) ?_
          show Go p e below s n0 _ _ _ (T378.setTop (mkF m 86 #[rv rx, rv la, iv xk.toInt32, iv 2] [(.int 1), (.int 2)]))
          refine Go.icmp_le C X378 (pc' := 103) d4_86 (by decide) (by decide) (fun hc => absurd hc (by decide)) (fun _ => ?_)
          show Go p e below s n0 _ _ _ (T378.setTop (mkF m 89 #[rv rx, rv la, iv xk.toInt32, iv 2] []))
          refine Go.st (fun _ => XS.aloadN X378.here C.hx rfl (hb C.hby d4_89) rfl rfl) ?_
          show Go p e below s n0 _ _ _ (T378.setTop (mkF m 90 #[rv rx, rv la, iv xk.toInt32, iv 2] [(.ref rx)]))
          refine Go.st (fun _ => XS.iconst X378.here C.hx rfl (hb C.hby d4_90)) ?_
          show Go p e below s n0 _ _ _ (T378.setTop (mkF m 91 #[rv rx, rv la, iv xk.toInt32, iv 2] [(.int 1), (.ref rx)]))
          refine Go.iaload C X378 AXX (by decide) rfl d4_91 ?_
          show Go p e below s n0 _ _ _ (T378.setTop (mkF m 92 #[rv rx, rv la, iv xk.toInt32, iv 2] [(.int 1)]))
          refine Go.st (fun _ => XS.aloadN X378.here C.hx rfl (hb C.hby d4_92) rfl rfl) ?_
          show Go p e below s n0 _ _ _ (T378.setTop (mkF m 93 #[rv rx, rv la, iv xk.toInt32, iv 2] [(.ref la), (.int 1)]))
          refine Go.st (fun _ => XS.iloadN X378.here C.hx rfl (hb C.hby d4_93) rfl) ?_
          show Go p e below s n0 _ _ _ (T378.setTop (mkF m 94 #[rv rx, rv la, iv xk.toInt32, iv 2] [(.int xk.toInt32), (.ref la), (.int 1)]))
          refine Go.st (fun _ => XS.iconst X378.here C.hx rfl (hb C.hby d4_94)) ?_
          show Go p e below s n0 _ _ _ (T378.setTop (mkF m 95 #[rv rx, rv la, iv xk.toInt32, iv 2] [(.int 1), (.int xk.toInt32), (.ref la), (.int 1)]))
          refine Go.callS C X378 (W := 1) (argsL := [(.ref la), (.int xk.toInt32), (.int 1)]) (rest := [(.int 1)]) (wd 36 rfl) (wd 37 rfl) (wd 34 rfl) (wd 38 rfl) (by decide) (con_kth1 l Z a0 hw n0 h0 X378.size la xk.toInt32 g0 g1 g2 g3 AL) (by decide) (by decide) rfl (lenOf pd_5 rfl) (Nat.le_of_ble_eq_true rfl) rfl d4_95 (by decide) (by decide) (fun T381 h381 v381 X381 hQ381 => ?_)
          obtain ⟨rfl, hh381⟩ := hQ381
          rw [hh381] at X381
          rw [show kthF g0.toInt32 g1.toInt32 g2.toInt32 g3.toInt32 xk.toInt32 1 = (1 : Int32) from by simp [kthF, hc10_262, hc22_334, hc35_374, hc48_375]]
          show Go p e below s n0 _ _ _ (T381.setTop (mkF m 98 #[rv rx, rv la, iv xk.toInt32, iv 2] [(.int 1), (.int 1)]))
          refine Go.icmp_eq C X381 (pc' := 103) d4_98 (by decide) (by decide) (fun _ => ?_) (fun hc => absurd hc (by decide))
          show Go p e below s n0 _ _ _ (T381.setTop (mkF m 103 #[rv rx, rv la, iv xk.toInt32, iv 2] []))
          refine Go.st (fun _ => XS.iloadN X381.here C.hx rfl (hb C.hby d4_103) rfl) ?_
          show Go p e below s n0 _ _ _ (T381.setTop (mkF m 104 #[rv rx, rv la, iv xk.toInt32, iv 2] [(.int 2)]))
          refine Go.st (fun _ => XS.iconst X381.here C.hx rfl (hb C.hby d4_104)) ?_
          show Go p e below s n0 _ _ _ (T381.setTop (mkF m 105 #[rv rx, rv la, iv xk.toInt32, iv 2] [(.int 2), (.int 2)]))
          refine Go.icmp_le C X381 (pc' := 122) d4_105 (by decide) (by decide) (fun _ => ?_) (fun hc => absurd hc (by decide))
          show Go p e below s n0 _ _ _ (T381.setTop (mkF m 122 #[rv rx, rv la, iv xk.toInt32, iv 2] []))
          refine Go.st (fun _ => XS.iloadN X381.here C.hx rfl (hb C.hby d4_122) rfl) ?_
          show Go p e below s n0 _ _ _ (T381.setTop (mkF m 123 #[rv rx, rv la, iv xk.toInt32, iv 2] [(.int 2)]))
          refine Go.st (fun _ => XS.iconst X381.here C.hx rfl (hb C.hby d4_123)) ?_
          show Go p e below s n0 _ _ _ (T381.setTop (mkF m 124 #[rv rx, rv la, iv xk.toInt32, iv 2] [(.int 3), (.int 2)]))
          refine Go.icmp_le C X381 (pc' := 141) d4_124 (by decide) (by decide) (fun _ => ?_) (fun hc => absurd hc (by decide))
          show Go p e below s n0 _ _ _ (T381.setTop (mkF m 141 #[rv rx, rv la, iv xk.toInt32, iv 2] []))
          refine Go.st (fun _ => XS.iconst X381.here C.hx rfl (hb C.hby d4_141)) ?_
          show Go p e below s n0 _ _ _ (T381.setTop (mkF m 142 #[rv rx, rv la, iv xk.toInt32, iv 2] [(.int 1)]))
          exact Go.retZ C X381 (by decide) d4_142 ⟨rfl, rfl⟩ (by decide) (by decide)
        · show Go p e below s n0 _ _ _ (T0.setTop (mkF m 51 #[rv rx, rv la, iv xk.toInt32, .unset] [(.int 2)]))
          refine Go.st (fun _ => XS.iconst X0.here C.hx rfl (hb C.hby d4_51)) ?_
          show Go p e below s n0 _ _ _ (T0.setTop (mkF m 52 #[rv rx, rv la, iv xk.toInt32, .unset] [(.int 1), (.int 2)]))
          refine Go.st (fun _ => XS.goto X0.here C.hx rfl (pc0 := 52) (pc' := 56) rfl (hb C.hby d4_52) (by decide) (by decide)) ?_
          show Go p e below s n0 _ _ _ (T0.setTop (mkF m 56 #[rv rx, rv la, iv xk.toInt32, .unset] [(.int 1), (.int 2)]))
          refine Go.st (fun _ => XS.iadd X0.here C.hx rfl (hb C.hby d4_56) rfl) ?_
          show Go p e below s n0 _ _ _ (T0.setTop (mkF m 57 #[rv rx, rv la, iv xk.toInt32, .unset] [(.int 3)]))
          refine Go.st (fun _ => XS.istoreN X0.here C.hx rfl (hb C.hby d4_57) rfl (l' := #[rv rx, rv la, iv xk.toInt32, iv 3]) rfl) ?_
          have p0 := eq_true ((eqI (by omega) (by omega)).mp hc10_262).symm
          have p1 := eq_true ((eqI (by omega) (by omega)).mp hc22_334).symm
          have p2 := eq_false (fun u : xk = g2 => hc35_374 ((eqI (by omega) (by omega)).mpr u.symm))
          have p3 := eq_true ((eqI (by omega) (by omega)).mp hc48_375).symm
          have RL : rowP (fsF g0 g1 g2 g3) tsI 4 4 xk = [(0 : Int32), (1 : Int32), (3 : Int32)] := by
            simp only [rowP, cnt, fsF0, fsF1, fsF2, fsF3, tsI0, tsI1, tsI2, tsI3, p0, p1, p2, p3, if_true, if_false]
            try rfl
          have AXX : AR Z h0 rx .int [(.int 0), (.int 1), (.int 3)] := by have u := AX; rw [RL] at u; exact u
          show Go p e below s n0 _ _ _ (T0.setTop (mkF m 58 #[rv rx, rv la, iv xk.toInt32, iv 3] []))
          refine Go.st (fun _ => XS.aloadN X0.here C.hx rfl (hb C.hby d4_58) rfl rfl) ?_
          show Go p e below s n0 _ _ _ (T0.setTop (mkF m 59 #[rv rx, rv la, iv xk.toInt32, iv 3] [(.ref rx)]))
          refine Go.alen C X0 AXX (z := (3 : Int32)) rfl d4_59 ?_
          show Go p e below s n0 _ _ _ (T0.setTop (mkF m 60 #[rv rx, rv la, iv xk.toInt32, iv 3] [(.int 3)]))
          refine Go.st (fun _ => XS.iloadN X0.here C.hx rfl (hb C.hby d4_60) rfl) ?_
          show Go p e below s n0 _ _ _ (T0.setTop (mkF m 61 #[rv rx, rv la, iv xk.toInt32, iv 3] [(.int 3), (.int 3)]))
          refine Go.icmp_eq C X0 (pc' := 66) d4_61 (by decide) (by decide) (fun _ => ?_) (fun hc => absurd hc (by decide))
          show Go p e below s n0 _ _ _ (T0.setTop (mkF m 66 #[rv rx, rv la, iv xk.toInt32, iv 3] []))
          refine Go.st (fun _ => XS.iloadN X0.here C.hx rfl (hb C.hby d4_66) rfl) ?_
          show Go p e below s n0 _ _ _ (T0.setTop (mkF m 67 #[rv rx, rv la, iv xk.toInt32, iv 3] [(.int 3)]))
          refine Go.if_le C X0 (pc' := 84) d4_67 (by decide) (by decide) (fun hc => absurd hc (by decide)) (fun _ => ?_)
          show Go p e below s n0 _ _ _ (T0.setTop (mkF m 70 #[rv rx, rv la, iv xk.toInt32, iv 3] []))
          refine Go.st (fun _ => XS.aloadN X0.here C.hx rfl (hb C.hby d4_70) rfl rfl) ?_
          show Go p e below s n0 _ _ _ (T0.setTop (mkF m 71 #[rv rx, rv la, iv xk.toInt32, iv 3] [(.ref rx)]))
          refine Go.st (fun _ => XS.iconst X0.here C.hx rfl (hb C.hby d4_71)) ?_
          show Go p e below s n0 _ _ _ (T0.setTop (mkF m 72 #[rv rx, rv la, iv xk.toInt32, iv 3] [(.int 0), (.ref rx)]))
          refine Go.iaload C X0 AXX (by decide) rfl d4_72 ?_
          show Go p e below s n0 _ _ _ (T0.setTop (mkF m 73 #[rv rx, rv la, iv xk.toInt32, iv 3] [(.int 0)]))
          refine Go.st (fun _ => XS.aloadN X0.here C.hx rfl (hb C.hby d4_73) rfl rfl) ?_
          show Go p e below s n0 _ _ _ (T0.setTop (mkF m 74 #[rv rx, rv la, iv xk.toInt32, iv 3] [(.ref la), (.int 0)]))
          refine Go.st (fun _ => XS.iloadN X0.here C.hx rfl (hb C.hby d4_74) rfl) ?_
          show Go p e below s n0 _ _ _ (T0.setTop (mkF m 75 #[rv rx, rv la, iv xk.toInt32, iv 3] [(.int xk.toInt32), (.ref la), (.int 0)]))
          refine Go.st (fun _ => XS.iconst X0.here C.hx rfl (hb C.hby d4_75)) ?_
          show Go p e below s n0 _ _ _ (T0.setTop (mkF m 76 #[rv rx, rv la, iv xk.toInt32, iv 3] [(.int 0), (.int xk.toInt32), (.ref la), (.int 0)]))
          refine Go.callS C X0 (W := 1) (argsL := [(.ref la), (.int xk.toInt32), (.int 0)]) (rest := [(.int 0)]) (wd 36 rfl) (wd 37 rfl) (wd 34 rfl) (wd 38 rfl) (by decide) (con_kth0 l Z a0 hw n0 h0 X0.size la xk.toInt32 g0 g1 g2 g3 AL) (by decide) (by decide) rfl (lenOf pd_5 rfl) (Nat.le_of_ble_eq_true rfl) rfl d4_76 (by decide) (by decide) (fun T387 h387 v387 X387 hQ387 => ?_)
          obtain ⟨rfl, hh387⟩ := hQ387
          rw [hh387] at X387
          rw [show kthF g0.toInt32 g1.toInt32 g2.toInt32 g3.toInt32 xk.toInt32 0 = (0 : Int32) from by simp [kthF, hc10_262, hc22_334, hc35_374, hc48_375]]
          show Go p e below s n0 _ _ _ (T387.setTop (mkF m 79 #[rv rx, rv la, iv xk.toInt32, iv 3] [(.int 0), (.int 0)]))
          refine Go.icmp_eq C X387 (pc' := 84) d4_79 (by decide) (by decide) (fun _ => ?_) (fun hc => absurd hc (by decide))
          show Go p e below s n0 _ _ _ (T387.setTop (mkF m 84 #[rv rx, rv la, iv xk.toInt32, iv 3] []))
          refine Go.st (fun _ => XS.iloadN X387.here C.hx rfl (hb C.hby d4_84) rfl) ?_
          show Go p e below s n0 _ _ _ (T387.setTop (mkF m 85 #[rv rx, rv la, iv xk.toInt32, iv 3] [(.int 3)]))
          refine Go.st (fun _ => XS.iconst X387.here C.hx rfl (hb C.hby d4_85)) ?_
          show Go p e below s n0 _ _ _ (T387.setTop (mkF m 86 #[rv rx, rv la, iv xk.toInt32, iv 3] [(.int 1), (.int 3)]))
          refine Go.icmp_le C X387 (pc' := 103) d4_86 (by decide) (by decide) (fun hc => absurd hc (by decide)) (fun _ => ?_)
          show Go p e below s n0 _ _ _ (T387.setTop (mkF m 89 #[rv rx, rv la, iv xk.toInt32, iv 3] []))
          refine Go.st (fun _ => XS.aloadN X387.here C.hx rfl (hb C.hby d4_89) rfl rfl) ?_
          show Go p e below s n0 _ _ _ (T387.setTop (mkF m 90 #[rv rx, rv la, iv xk.toInt32, iv 3] [(.ref rx)]))
          refine Go.st (fun _ => XS.iconst X387.here C.hx rfl (hb C.hby d4_90)) ?_
          show Go p e below s n0 _ _ _ (T387.setTop (mkF m 91 #[rv rx, rv la, iv xk.toInt32, iv 3] [(.int 1), (.ref rx)]))
          refine Go.iaload C X387 AXX (by decide) rfl d4_91 ?_
          show Go p e below s n0 _ _ _ (T387.setTop (mkF m 92 #[rv rx, rv la, iv xk.toInt32, iv 3] [(.int 1)]))
          refine Go.st (fun _ => XS.aloadN X387.here C.hx rfl (hb C.hby d4_92) rfl rfl) ?_
          show Go p e below s n0 _ _ _ (T387.setTop (mkF m 93 #[rv rx, rv la, iv xk.toInt32, iv 3] [(.ref la), (.int 1)]))
          refine Go.st (fun _ => XS.iloadN X387.here C.hx rfl (hb C.hby d4_93) rfl) ?_
          show Go p e below s n0 _ _ _ (T387.setTop (mkF m 94 #[rv rx, rv la, iv xk.toInt32, iv 3] [(.int xk.toInt32), (.ref la), (.int 1)]))
          refine Go.st (fun _ => XS.iconst X387.here C.hx rfl (hb C.hby d4_94)) ?_
          show Go p e below s n0 _ _ _ (T387.setTop (mkF m 95 #[rv rx, rv la, iv xk.toInt32, iv 3] [(.int 1), (.int xk.toInt32), (.ref la), (.int 1)]))
          refine Go.callS C X387 (W := 1) (argsL := [(.ref la), (.int xk.toInt32), (.int 1)]) (rest := [(.int 1)]) (wd 36 rfl) (wd 37 rfl) (wd 34 rfl) (wd 38 rfl) (by decide) (con_kth1 l Z a0 hw n0 h0 X387.size la xk.toInt32 g0 g1 g2 g3 AL) (by decide) (by decide) rfl (lenOf pd_5 rfl) (Nat.le_of_ble_eq_true rfl) rfl d4_95 (by decide) (by decide) (fun T390 h390 v390 X390 hQ390 => ?_)
          obtain ⟨rfl, hh390⟩ := hQ390
          rw [hh390] at X390
          rw [show kthF g0.toInt32 g1.toInt32 g2.toInt32 g3.toInt32 xk.toInt32 1 = (1 : Int32) from by simp [kthF, hc10_262, hc22_334, hc35_374, hc48_375]]
          show Go p e below s n0 _ _ _ (T390.setTop (mkF m 98 #[rv rx, rv la, iv xk.toInt32, iv 3] [(.int 1), (.int 1)]))
          refine Go.icmp_eq C X390 (pc' := 103) d4_98 (by decide) (by decide) (fun _ => ?_) (fun hc => absurd hc (by decide))
          show Go p e below s n0 _ _ _ (T390.setTop (mkF m 103 #[rv rx, rv la, iv xk.toInt32, iv 3] []))
          refine Go.st (fun _ => XS.iloadN X390.here C.hx rfl (hb C.hby d4_103) rfl) ?_
          show Go p e below s n0 _ _ _ (T390.setTop (mkF m 104 #[rv rx, rv la, iv xk.toInt32, iv 3] [(.int 3)]))
          refine Go.st (fun _ => XS.iconst X390.here C.hx rfl (hb C.hby d4_104)) ?_
          show Go p e below s n0 _ _ _ (T390.setTop (mkF m 105 #[rv rx, rv la, iv xk.toInt32, iv 3] [(.int 2), (.int 3)]))
          refine Go.icmp_le C X390 (pc' := 122) d4_105 (by decide) (by decide) (fun hc => absurd hc (by decide)) (fun _ => ?_)
          show Go p e below s n0 _ _ _ (T390.setTop (mkF m 108 #[rv rx, rv la, iv xk.toInt32, iv 3] []))
          refine Go.st (fun _ => XS.aloadN X390.here C.hx rfl (hb C.hby d4_108) rfl rfl) ?_
          show Go p e below s n0 _ _ _ (T390.setTop (mkF m 109 #[rv rx, rv la, iv xk.toInt32, iv 3] [(.ref rx)]))
          refine Go.st (fun _ => XS.iconst X390.here C.hx rfl (hb C.hby d4_109)) ?_
          show Go p e below s n0 _ _ _ (T390.setTop (mkF m 110 #[rv rx, rv la, iv xk.toInt32, iv 3] [(.int 2), (.ref rx)]))
          refine Go.iaload C X390 AXX (by decide) rfl d4_110 ?_
          show Go p e below s n0 _ _ _ (T390.setTop (mkF m 111 #[rv rx, rv la, iv xk.toInt32, iv 3] [(.int 3)]))
          refine Go.st (fun _ => XS.aloadN X390.here C.hx rfl (hb C.hby d4_111) rfl rfl) ?_
          show Go p e below s n0 _ _ _ (T390.setTop (mkF m 112 #[rv rx, rv la, iv xk.toInt32, iv 3] [(.ref la), (.int 3)]))
          refine Go.st (fun _ => XS.iloadN X390.here C.hx rfl (hb C.hby d4_112) rfl) ?_
          show Go p e below s n0 _ _ _ (T390.setTop (mkF m 113 #[rv rx, rv la, iv xk.toInt32, iv 3] [(.int xk.toInt32), (.ref la), (.int 3)]))
          refine Go.st (fun _ => XS.iconst X390.here C.hx rfl (hb C.hby d4_113)) ?_
          show Go p e below s n0 _ _ _ (T390.setTop (mkF m 114 #[rv rx, rv la, iv xk.toInt32, iv 3] [(.int 2), (.int xk.toInt32), (.ref la), (.int 3)]))
          refine Go.callS C X390 (W := 1) (argsL := [(.ref la), (.int xk.toInt32), (.int 2)]) (rest := [(.int 3)]) (wd 36 rfl) (wd 37 rfl) (wd 34 rfl) (wd 38 rfl) (by decide) (con_kth2 l Z a0 hw n0 h0 X390.size la xk.toInt32 g0 g1 g2 g3 AL) (by decide) (by decide) rfl (lenOf pd_5 rfl) (Nat.le_of_ble_eq_true rfl) rfl d4_114 (by decide) (by decide) (fun T393 h393 v393 X393 hQ393 => ?_)
          obtain ⟨rfl, hh393⟩ := hQ393
          rw [hh393] at X393
          rw [show kthF g0.toInt32 g1.toInt32 g2.toInt32 g3.toInt32 xk.toInt32 2 = (3 : Int32) from by simp [kthF, hc10_262, hc22_334, hc35_374, hc48_375]]
          show Go p e below s n0 _ _ _ (T393.setTop (mkF m 117 #[rv rx, rv la, iv xk.toInt32, iv 3] [(.int 3), (.int 3)]))
          refine Go.icmp_eq C X393 (pc' := 122) d4_117 (by decide) (by decide) (fun _ => ?_) (fun hc => absurd hc (by decide))
          show Go p e below s n0 _ _ _ (T393.setTop (mkF m 122 #[rv rx, rv la, iv xk.toInt32, iv 3] []))
          refine Go.st (fun _ => XS.iloadN X393.here C.hx rfl (hb C.hby d4_122) rfl) ?_
          show Go p e below s n0 _ _ _ (T393.setTop (mkF m 123 #[rv rx, rv la, iv xk.toInt32, iv 3] [(.int 3)]))
          refine Go.st (fun _ => XS.iconst X393.here C.hx rfl (hb C.hby d4_123)) ?_
          show Go p e below s n0 _ _ _ (T393.setTop (mkF m 124 #[rv rx, rv la, iv xk.toInt32, iv 3] [(.int 3), (.int 3)]))
          refine Go.icmp_le C X393 (pc' := 141) d4_124 (by decide) (by decide) (fun _ => ?_) (fun hc => absurd hc (by decide))
          show Go p e below s n0 _ _ _ (T393.setTop (mkF m 141 #[rv rx, rv la, iv xk.toInt32, iv 3] []))
          refine Go.st (fun _ => XS.iconst X393.here C.hx rfl (hb C.hby d4_141)) ?_
          show Go p e below s n0 _ _ _ (T393.setTop (mkF m 142 #[rv rx, rv la, iv xk.toInt32, iv 3] [(.int 1)]))
          exact Go.retZ C X393 (by decide) d4_142 ⟨rfl, rfl⟩ (by decide) (by decide)
      · show Go p e below s n0 _ _ _ (T0.setTop (mkF m 38 #[rv rx, rv la, iv xk.toInt32, .unset] [(.int 2)]))
        refine Go.st (fun _ => XS.iconst X0.here C.hx rfl (hb C.hby d4_38)) ?_
        show Go p e below s n0 _ _ _ (T0.setTop (mkF m 39 #[rv rx, rv la, iv xk.toInt32, .unset] [(.int 1), (.int 2)]))
        refine Go.st (fun _ => XS.goto X0.here C.hx rfl (pc0 := 39) (pc' := 43) rfl (hb C.hby d4_39) (by decide) (by decide)) ?_
        show Go p e below s n0 _ _ _ (T0.setTop (mkF m 43 #[rv rx, rv la, iv xk.toInt32, .unset] [(.int 1), (.int 2)]))
        refine Go.st (fun _ => XS.iadd X0.here C.hx rfl (hb C.hby d4_43) rfl) ?_
        show Go p e below s n0 _ _ _ (T0.setTop (mkF m 44 #[rv rx, rv la, iv xk.toInt32, .unset] [(.int 3)]))
        refine Go.st (fun _ => XS.aloadN X0.here C.hx rfl (hb C.hby d4_44) rfl rfl) ?_
        show Go p e below s n0 _ _ _ (T0.setTop (mkF m 45 #[rv rx, rv la, iv xk.toInt32, .unset] [(.ref la), (.int 3)]))
        refine Go.st (fun _ => XS.iconst X0.here C.hx rfl (hb C.hby d4_45)) ?_
        show Go p e below s n0 _ _ _ (T0.setTop (mkF m 46 #[rv rx, rv la, iv xk.toInt32, .unset] [(.int 3), (.ref la), (.int 3)]))
        refine Go.iaload C X0 AL (by decide) rfl d4_46 ?_
        show Go p e below s n0 _ _ _ (T0.setTop (mkF m 47 #[rv rx, rv la, iv xk.toInt32, .unset] [(.int g3.toInt32), (.int 3)]))
        refine Go.st (fun _ => XS.iloadN X0.here C.hx rfl (hb C.hby d4_47) rfl) ?_
        show Go p e below s n0 _ _ _ (T0.setTop (mkF m 48 #[rv rx, rv la, iv xk.toInt32, .unset] [(.int xk.toInt32), (.int g3.toInt32), (.int 3)]))
        refine Go.icmp_ne C X0 (pc' := 55) d4_48 (by decide) (by decide) (fun hc48_396 => ?_) (fun hc48_396 => ?_)
        · show Go p e below s n0 _ _ _ (T0.setTop (mkF m 55 #[rv rx, rv la, iv xk.toInt32, .unset] [(.int 3)]))
          refine Go.st (fun _ => XS.iconst X0.here C.hx rfl (hb C.hby d4_55)) ?_
          show Go p e below s n0 _ _ _ (T0.setTop (mkF m 56 #[rv rx, rv la, iv xk.toInt32, .unset] [(.int 0), (.int 3)]))
          refine Go.st (fun _ => XS.iadd X0.here C.hx rfl (hb C.hby d4_56) rfl) ?_
          show Go p e below s n0 _ _ _ (T0.setTop (mkF m 57 #[rv rx, rv la, iv xk.toInt32, .unset] [(.int 3)]))
          refine Go.st (fun _ => XS.istoreN X0.here C.hx rfl (hb C.hby d4_57) rfl (l' := #[rv rx, rv la, iv xk.toInt32, iv 3]) rfl) ?_
          have p0 := eq_true ((eqI (by omega) (by omega)).mp hc10_262).symm
          have p1 := eq_true ((eqI (by omega) (by omega)).mp hc22_334).symm
          have p2 := eq_true ((eqI (by omega) (by omega)).mp hc35_374).symm
          have p3 := eq_false (fun u : xk = g3 => hc48_396 ((eqI (by omega) (by omega)).mpr u.symm))
          have RL : rowP (fsF g0 g1 g2 g3) tsI 4 4 xk = [(0 : Int32), (1 : Int32), (2 : Int32)] := by
            simp only [rowP, cnt, fsF0, fsF1, fsF2, fsF3, tsI0, tsI1, tsI2, tsI3, p0, p1, p2, p3, if_true, if_false]
            try rfl
          have AXX : AR Z h0 rx .int [(.int 0), (.int 1), (.int 2)] := by have u := AX; rw [RL] at u; exact u
          show Go p e below s n0 _ _ _ (T0.setTop (mkF m 58 #[rv rx, rv la, iv xk.toInt32, iv 3] []))
          refine Go.st (fun _ => XS.aloadN X0.here C.hx rfl (hb C.hby d4_58) rfl rfl) ?_
          show Go p e below s n0 _ _ _ (T0.setTop (mkF m 59 #[rv rx, rv la, iv xk.toInt32, iv 3] [(.ref rx)]))
          refine Go.alen C X0 AXX (z := (3 : Int32)) rfl d4_59 ?_
          show Go p e below s n0 _ _ _ (T0.setTop (mkF m 60 #[rv rx, rv la, iv xk.toInt32, iv 3] [(.int 3)]))
          refine Go.st (fun _ => XS.iloadN X0.here C.hx rfl (hb C.hby d4_60) rfl) ?_
          show Go p e below s n0 _ _ _ (T0.setTop (mkF m 61 #[rv rx, rv la, iv xk.toInt32, iv 3] [(.int 3), (.int 3)]))
          refine Go.icmp_eq C X0 (pc' := 66) d4_61 (by decide) (by decide) (fun _ => ?_) (fun hc => absurd hc (by decide))
          show Go p e below s n0 _ _ _ (T0.setTop (mkF m 66 #[rv rx, rv la, iv xk.toInt32, iv 3] []))
          refine Go.st (fun _ => XS.iloadN X0.here C.hx rfl (hb C.hby d4_66) rfl) ?_
          show Go p e below s n0 _ _ _ (T0.setTop (mkF m 67 #[rv rx, rv la, iv xk.toInt32, iv 3] [(.int 3)]))
          refine Go.if_le C X0 (pc' := 84) d4_67 (by decide) (by decide) (fun hc => absurd hc (by decide)) (fun _ => ?_)
          show Go p e below s n0 _ _ _ (T0.setTop (mkF m 70 #[rv rx, rv la, iv xk.toInt32, iv 3] []))
          refine Go.st (fun _ => XS.aloadN X0.here C.hx rfl (hb C.hby d4_70) rfl rfl) ?_
          show Go p e below s n0 _ _ _ (T0.setTop (mkF m 71 #[rv rx, rv la, iv xk.toInt32, iv 3] [(.ref rx)]))
          refine Go.st (fun _ => XS.iconst X0.here C.hx rfl (hb C.hby d4_71)) ?_
          show Go p e below s n0 _ _ _ (T0.setTop (mkF m 72 #[rv rx, rv la, iv xk.toInt32, iv 3] [(.int 0), (.ref rx)]))
          refine Go.iaload C X0 AXX (by decide) rfl d4_72 ?_
          show Go p e below s n0 _ _ _ (T0.setTop (mkF m 73 #[rv rx, rv la, iv xk.toInt32, iv 3] [(.int 0)]))
          refine Go.st (fun _ => XS.aloadN X0.here C.hx rfl (hb C.hby d4_73) rfl rfl) ?_
          show Go p e below s n0 _ _ _ (T0.setTop (mkF m 74 #[rv rx, rv la, iv xk.toInt32, iv 3] [(.ref la), (.int 0)]))
          refine Go.st (fun _ => XS.iloadN X0.here C.hx rfl (hb C.hby d4_74) rfl) ?_
          show Go p e below s n0 _ _ _ (T0.setTop (mkF m 75 #[rv rx, rv la, iv xk.toInt32, iv 3] [(.int xk.toInt32), (.ref la), (.int 0)]))
          refine Go.st (fun _ => XS.iconst X0.here C.hx rfl (hb C.hby d4_75)) ?_
          show Go p e below s n0 _ _ _ (T0.setTop (mkF m 76 #[rv rx, rv la, iv xk.toInt32, iv 3] [(.int 0), (.int xk.toInt32), (.ref la), (.int 0)]))
          refine Go.callS C X0 (W := 1) (argsL := [(.ref la), (.int xk.toInt32), (.int 0)]) (rest := [(.int 0)]) (wd 36 rfl) (wd 37 rfl) (wd 34 rfl) (wd 38 rfl) (by decide) (con_kth0 l Z a0 hw n0 h0 X0.size la xk.toInt32 g0 g1 g2 g3 AL) (by decide) (by decide) rfl (lenOf pd_5 rfl) (Nat.le_of_ble_eq_true rfl) rfl d4_76 (by decide) (by decide) (fun T399 h399 v399 X399 hQ399 => ?_)
          obtain ⟨rfl, hh399⟩ := hQ399
          rw [hh399] at X399
          rw [show kthF g0.toInt32 g1.toInt32 g2.toInt32 g3.toInt32 xk.toInt32 0 = (0 : Int32) from by simp [kthF, hc10_262, hc22_334, hc35_374, hc48_396]]
          show Go p e below s n0 _ _ _ (T399.setTop (mkF m 79 #[rv rx, rv la, iv xk.toInt32, iv 3] [(.int 0), (.int 0)]))
          refine Go.icmp_eq C X399 (pc' := 84) d4_79 (by decide) (by decide) (fun _ => ?_) (fun hc => absurd hc (by decide))
          show Go p e below s n0 _ _ _ (T399.setTop (mkF m 84 #[rv rx, rv la, iv xk.toInt32, iv 3] []))
          refine Go.st (fun _ => XS.iloadN X399.here C.hx rfl (hb C.hby d4_84) rfl) ?_
          show Go p e below s n0 _ _ _ (T399.setTop (mkF m 85 #[rv rx, rv la, iv xk.toInt32, iv 3] [(.int 3)]))
          refine Go.st (fun _ => XS.iconst X399.here C.hx rfl (hb C.hby d4_85)) ?_
          show Go p e below s n0 _ _ _ (T399.setTop (mkF m 86 #[rv rx, rv la, iv xk.toInt32, iv 3] [(.int 1), (.int 3)]))
          refine Go.icmp_le C X399 (pc' := 103) d4_86 (by decide) (by decide) (fun hc => absurd hc (by decide)) (fun _ => ?_)
          show Go p e below s n0 _ _ _ (T399.setTop (mkF m 89 #[rv rx, rv la, iv xk.toInt32, iv 3] []))
          refine Go.st (fun _ => XS.aloadN X399.here C.hx rfl (hb C.hby d4_89) rfl rfl) ?_
          show Go p e below s n0 _ _ _ (T399.setTop (mkF m 90 #[rv rx, rv la, iv xk.toInt32, iv 3] [(.ref rx)]))
          refine Go.st (fun _ => XS.iconst X399.here C.hx rfl (hb C.hby d4_90)) ?_
          show Go p e below s n0 _ _ _ (T399.setTop (mkF m 91 #[rv rx, rv la, iv xk.toInt32, iv 3] [(.int 1), (.ref rx)]))
          refine Go.iaload C X399 AXX (by decide) rfl d4_91 ?_
          show Go p e below s n0 _ _ _ (T399.setTop (mkF m 92 #[rv rx, rv la, iv xk.toInt32, iv 3] [(.int 1)]))
          refine Go.st (fun _ => XS.aloadN X399.here C.hx rfl (hb C.hby d4_92) rfl rfl) ?_
          show Go p e below s n0 _ _ _ (T399.setTop (mkF m 93 #[rv rx, rv la, iv xk.toInt32, iv 3] [(.ref la), (.int 1)]))
          refine Go.st (fun _ => XS.iloadN X399.here C.hx rfl (hb C.hby d4_93) rfl) ?_
          show Go p e below s n0 _ _ _ (T399.setTop (mkF m 94 #[rv rx, rv la, iv xk.toInt32, iv 3] [(.int xk.toInt32), (.ref la), (.int 1)]))
          refine Go.st (fun _ => XS.iconst X399.here C.hx rfl (hb C.hby d4_94)) ?_
          show Go p e below s n0 _ _ _ (T399.setTop (mkF m 95 #[rv rx, rv la, iv xk.toInt32, iv 3] [(.int 1), (.int xk.toInt32), (.ref la), (.int 1)]))
          refine Go.callS C X399 (W := 1) (argsL := [(.ref la), (.int xk.toInt32), (.int 1)]) (rest := [(.int 1)]) (wd 36 rfl) (wd 37 rfl) (wd 34 rfl) (wd 38 rfl) (by decide) (con_kth1 l Z a0 hw n0 h0 X399.size la xk.toInt32 g0 g1 g2 g3 AL) (by decide) (by decide) rfl (lenOf pd_5 rfl) (Nat.le_of_ble_eq_true rfl) rfl d4_95 (by decide) (by decide) (fun T402 h402 v402 X402 hQ402 => ?_)
          obtain ⟨rfl, hh402⟩ := hQ402
          rw [hh402] at X402
          rw [show kthF g0.toInt32 g1.toInt32 g2.toInt32 g3.toInt32 xk.toInt32 1 = (1 : Int32) from by simp [kthF, hc10_262, hc22_334, hc35_374, hc48_396]]
          show Go p e below s n0 _ _ _ (T402.setTop (mkF m 98 #[rv rx, rv la, iv xk.toInt32, iv 3] [(.int 1), (.int 1)]))
          refine Go.icmp_eq C X402 (pc' := 103) d4_98 (by decide) (by decide) (fun _ => ?_) (fun hc => absurd hc (by decide))
          show Go p e below s n0 _ _ _ (T402.setTop (mkF m 103 #[rv rx, rv la, iv xk.toInt32, iv 3] []))
          refine Go.st (fun _ => XS.iloadN X402.here C.hx rfl (hb C.hby d4_103) rfl) ?_
          show Go p e below s n0 _ _ _ (T402.setTop (mkF m 104 #[rv rx, rv la, iv xk.toInt32, iv 3] [(.int 3)]))
          refine Go.st (fun _ => XS.iconst X402.here C.hx rfl (hb C.hby d4_104)) ?_
          show Go p e below s n0 _ _ _ (T402.setTop (mkF m 105 #[rv rx, rv la, iv xk.toInt32, iv 3] [(.int 2), (.int 3)]))
          refine Go.icmp_le C X402 (pc' := 122) d4_105 (by decide) (by decide) (fun hc => absurd hc (by decide)) (fun _ => ?_)
          show Go p e below s n0 _ _ _ (T402.setTop (mkF m 108 #[rv rx, rv la, iv xk.toInt32, iv 3] []))
          refine Go.st (fun _ => XS.aloadN X402.here C.hx rfl (hb C.hby d4_108) rfl rfl) ?_
          show Go p e below s n0 _ _ _ (T402.setTop (mkF m 109 #[rv rx, rv la, iv xk.toInt32, iv 3] [(.ref rx)]))
          refine Go.st (fun _ => XS.iconst X402.here C.hx rfl (hb C.hby d4_109)) ?_
          show Go p e below s n0 _ _ _ (T402.setTop (mkF m 110 #[rv rx, rv la, iv xk.toInt32, iv 3] [(.int 2), (.ref rx)]))
          refine Go.iaload C X402 AXX (by decide) rfl d4_110 ?_
          show Go p e below s n0 _ _ _ (T402.setTop (mkF m 111 #[rv rx, rv la, iv xk.toInt32, iv 3] [(.int 2)]))
          refine Go.st (fun _ => XS.aloadN X402.here C.hx rfl (hb C.hby d4_111) rfl rfl) ?_
          show Go p e below s n0 _ _ _ (T402.setTop (mkF m 112 #[rv rx, rv la, iv xk.toInt32, iv 3] [(.ref la), (.int 2)]))
          refine Go.st (fun _ => XS.iloadN X402.here C.hx rfl (hb C.hby d4_112) rfl) ?_
          show Go p e below s n0 _ _ _ (T402.setTop (mkF m 113 #[rv rx, rv la, iv xk.toInt32, iv 3] [(.int xk.toInt32), (.ref la), (.int 2)]))
          refine Go.st (fun _ => XS.iconst X402.here C.hx rfl (hb C.hby d4_113)) ?_
          show Go p e below s n0 _ _ _ (T402.setTop (mkF m 114 #[rv rx, rv la, iv xk.toInt32, iv 3] [(.int 2), (.int xk.toInt32), (.ref la), (.int 2)]))
          refine Go.callS C X402 (W := 1) (argsL := [(.ref la), (.int xk.toInt32), (.int 2)]) (rest := [(.int 2)]) (wd 36 rfl) (wd 37 rfl) (wd 34 rfl) (wd 38 rfl) (by decide) (con_kth2 l Z a0 hw n0 h0 X402.size la xk.toInt32 g0 g1 g2 g3 AL) (by decide) (by decide) rfl (lenOf pd_5 rfl) (Nat.le_of_ble_eq_true rfl) rfl d4_114 (by decide) (by decide) (fun T405 h405 v405 X405 hQ405 => ?_)
          obtain ⟨rfl, hh405⟩ := hQ405
          rw [hh405] at X405
          rw [show kthF g0.toInt32 g1.toInt32 g2.toInt32 g3.toInt32 xk.toInt32 2 = (2 : Int32) from by simp [kthF, hc10_262, hc22_334, hc35_374, hc48_396]]
          show Go p e below s n0 _ _ _ (T405.setTop (mkF m 117 #[rv rx, rv la, iv xk.toInt32, iv 3] [(.int 2), (.int 2)]))
          refine Go.icmp_eq C X405 (pc' := 122) d4_117 (by decide) (by decide) (fun _ => ?_) (fun hc => absurd hc (by decide))
          show Go p e below s n0 _ _ _ (T405.setTop (mkF m 122 #[rv rx, rv la, iv xk.toInt32, iv 3] []))
          refine Go.st (fun _ => XS.iloadN X405.here C.hx rfl (hb C.hby d4_122) rfl) ?_
          show Go p e below s n0 _ _ _ (T405.setTop (mkF m 123 #[rv rx, rv la, iv xk.toInt32, iv 3] [(.int 3)]))
          refine Go.st (fun _ => XS.iconst X405.here C.hx rfl (hb C.hby d4_123)) ?_
          show Go p e below s n0 _ _ _ (T405.setTop (mkF m 124 #[rv rx, rv la, iv xk.toInt32, iv 3] [(.int 3), (.int 3)]))
          refine Go.icmp_le C X405 (pc' := 141) d4_124 (by decide) (by decide) (fun _ => ?_) (fun hc => absurd hc (by decide))
          show Go p e below s n0 _ _ _ (T405.setTop (mkF m 141 #[rv rx, rv la, iv xk.toInt32, iv 3] []))
          refine Go.st (fun _ => XS.iconst X405.here C.hx rfl (hb C.hby d4_141)) ?_
          show Go p e below s n0 _ _ _ (T405.setTop (mkF m 142 #[rv rx, rv la, iv xk.toInt32, iv 3] [(.int 1)]))
          exact Go.retZ C X405 (by decide) d4_142 ⟨rfl, rfl⟩ (by decide) (by decide)
        · show Go p e below s n0 _ _ _ (T0.setTop (mkF m 51 #[rv rx, rv la, iv xk.toInt32, .unset] [(.int 3)]))
          refine Go.st (fun _ => XS.iconst X0.here C.hx rfl (hb C.hby d4_51)) ?_
          show Go p e below s n0 _ _ _ (T0.setTop (mkF m 52 #[rv rx, rv la, iv xk.toInt32, .unset] [(.int 1), (.int 3)]))
          refine Go.st (fun _ => XS.goto X0.here C.hx rfl (pc0 := 52) (pc' := 56) rfl (hb C.hby d4_52) (by decide) (by decide)) ?_
          show Go p e below s n0 _ _ _ (T0.setTop (mkF m 56 #[rv rx, rv la, iv xk.toInt32, .unset] [(.int 1), (.int 3)]))
          refine Go.st (fun _ => XS.iadd X0.here C.hx rfl (hb C.hby d4_56) rfl) ?_
          show Go p e below s n0 _ _ _ (T0.setTop (mkF m 57 #[rv rx, rv la, iv xk.toInt32, .unset] [(.int 4)]))
          refine Go.st (fun _ => XS.istoreN X0.here C.hx rfl (hb C.hby d4_57) rfl (l' := #[rv rx, rv la, iv xk.toInt32, iv 4]) rfl) ?_
          have p0 := eq_true ((eqI (by omega) (by omega)).mp hc10_262).symm
          have p1 := eq_true ((eqI (by omega) (by omega)).mp hc22_334).symm
          have p2 := eq_true ((eqI (by omega) (by omega)).mp hc35_374).symm
          have p3 := eq_true ((eqI (by omega) (by omega)).mp hc48_396).symm
          have RL : rowP (fsF g0 g1 g2 g3) tsI 4 4 xk = [(0 : Int32), (1 : Int32), (2 : Int32), (3 : Int32)] := by
            simp only [rowP, cnt, fsF0, fsF1, fsF2, fsF3, tsI0, tsI1, tsI2, tsI3, p0, p1, p2, p3, if_true, if_false]
            try rfl
          have AXX : AR Z h0 rx .int [(.int 0), (.int 1), (.int 2), (.int 3)] := by have u := AX; rw [RL] at u; exact u
          show Go p e below s n0 _ _ _ (T0.setTop (mkF m 58 #[rv rx, rv la, iv xk.toInt32, iv 4] []))
          refine Go.st (fun _ => XS.aloadN X0.here C.hx rfl (hb C.hby d4_58) rfl rfl) ?_
          show Go p e below s n0 _ _ _ (T0.setTop (mkF m 59 #[rv rx, rv la, iv xk.toInt32, iv 4] [(.ref rx)]))
          refine Go.alen C X0 AXX (z := (4 : Int32)) rfl d4_59 ?_
          show Go p e below s n0 _ _ _ (T0.setTop (mkF m 60 #[rv rx, rv la, iv xk.toInt32, iv 4] [(.int 4)]))
          refine Go.st (fun _ => XS.iloadN X0.here C.hx rfl (hb C.hby d4_60) rfl) ?_
          show Go p e below s n0 _ _ _ (T0.setTop (mkF m 61 #[rv rx, rv la, iv xk.toInt32, iv 4] [(.int 4), (.int 4)]))
          refine Go.icmp_eq C X0 (pc' := 66) d4_61 (by decide) (by decide) (fun _ => ?_) (fun hc => absurd hc (by decide))
          show Go p e below s n0 _ _ _ (T0.setTop (mkF m 66 #[rv rx, rv la, iv xk.toInt32, iv 4] []))
          refine Go.st (fun _ => XS.iloadN X0.here C.hx rfl (hb C.hby d4_66) rfl) ?_
          show Go p e below s n0 _ _ _ (T0.setTop (mkF m 67 #[rv rx, rv la, iv xk.toInt32, iv 4] [(.int 4)]))
          refine Go.if_le C X0 (pc' := 84) d4_67 (by decide) (by decide) (fun hc => absurd hc (by decide)) (fun _ => ?_)
          show Go p e below s n0 _ _ _ (T0.setTop (mkF m 70 #[rv rx, rv la, iv xk.toInt32, iv 4] []))
          refine Go.st (fun _ => XS.aloadN X0.here C.hx rfl (hb C.hby d4_70) rfl rfl) ?_
          show Go p e below s n0 _ _ _ (T0.setTop (mkF m 71 #[rv rx, rv la, iv xk.toInt32, iv 4] [(.ref rx)]))
          refine Go.st (fun _ => XS.iconst X0.here C.hx rfl (hb C.hby d4_71)) ?_
          show Go p e below s n0 _ _ _ (T0.setTop (mkF m 72 #[rv rx, rv la, iv xk.toInt32, iv 4] [(.int 0), (.ref rx)]))
          refine Go.iaload C X0 AXX (by decide) rfl d4_72 ?_
          show Go p e below s n0 _ _ _ (T0.setTop (mkF m 73 #[rv rx, rv la, iv xk.toInt32, iv 4] [(.int 0)]))
          refine Go.st (fun _ => XS.aloadN X0.here C.hx rfl (hb C.hby d4_73) rfl rfl) ?_
          show Go p e below s n0 _ _ _ (T0.setTop (mkF m 74 #[rv rx, rv la, iv xk.toInt32, iv 4] [(.ref la), (.int 0)]))
          refine Go.st (fun _ => XS.iloadN X0.here C.hx rfl (hb C.hby d4_74) rfl) ?_
          show Go p e below s n0 _ _ _ (T0.setTop (mkF m 75 #[rv rx, rv la, iv xk.toInt32, iv 4] [(.int xk.toInt32), (.ref la), (.int 0)]))
          refine Go.st (fun _ => XS.iconst X0.here C.hx rfl (hb C.hby d4_75)) ?_
          show Go p e below s n0 _ _ _ (T0.setTop (mkF m 76 #[rv rx, rv la, iv xk.toInt32, iv 4] [(.int 0), (.int xk.toInt32), (.ref la), (.int 0)]))
          refine Go.callS C X0 (W := 1) (argsL := [(.ref la), (.int xk.toInt32), (.int 0)]) (rest := [(.int 0)]) (wd 36 rfl) (wd 37 rfl) (wd 34 rfl) (wd 38 rfl) (by decide) (con_kth0 l Z a0 hw n0 h0 X0.size la xk.toInt32 g0 g1 g2 g3 AL) (by decide) (by decide) rfl (lenOf pd_5 rfl) (Nat.le_of_ble_eq_true rfl) rfl d4_76 (by decide) (by decide) (fun T410 h410 v410 X410 hQ410 => ?_)
          obtain ⟨rfl, hh410⟩ := hQ410
          rw [hh410] at X410
          rw [show kthF g0.toInt32 g1.toInt32 g2.toInt32 g3.toInt32 xk.toInt32 0 = (0 : Int32) from by simp [kthF, hc10_262, hc22_334, hc35_374, hc48_396]]
          show Go p e below s n0 _ _ _ (T410.setTop (mkF m 79 #[rv rx, rv la, iv xk.toInt32, iv 4] [(.int 0), (.int 0)]))
          refine Go.icmp_eq C X410 (pc' := 84) d4_79 (by decide) (by decide) (fun _ => ?_) (fun hc => absurd hc (by decide))
          show Go p e below s n0 _ _ _ (T410.setTop (mkF m 84 #[rv rx, rv la, iv xk.toInt32, iv 4] []))
          refine Go.st (fun _ => XS.iloadN X410.here C.hx rfl (hb C.hby d4_84) rfl) ?_
          show Go p e below s n0 _ _ _ (T410.setTop (mkF m 85 #[rv rx, rv la, iv xk.toInt32, iv 4] [(.int 4)]))
          refine Go.st (fun _ => XS.iconst X410.here C.hx rfl (hb C.hby d4_85)) ?_
          show Go p e below s n0 _ _ _ (T410.setTop (mkF m 86 #[rv rx, rv la, iv xk.toInt32, iv 4] [(.int 1), (.int 4)]))
          refine Go.icmp_le C X410 (pc' := 103) d4_86 (by decide) (by decide) (fun hc => absurd hc (by decide)) (fun _ => ?_)
          show Go p e below s n0 _ _ _ (T410.setTop (mkF m 89 #[rv rx, rv la, iv xk.toInt32, iv 4] []))
          refine Go.st (fun _ => XS.aloadN X410.here C.hx rfl (hb C.hby d4_89) rfl rfl) ?_
          show Go p e below s n0 _ _ _ (T410.setTop (mkF m 90 #[rv rx, rv la, iv xk.toInt32, iv 4] [(.ref rx)]))
          refine Go.st (fun _ => XS.iconst X410.here C.hx rfl (hb C.hby d4_90)) ?_
          show Go p e below s n0 _ _ _ (T410.setTop (mkF m 91 #[rv rx, rv la, iv xk.toInt32, iv 4] [(.int 1), (.ref rx)]))
          refine Go.iaload C X410 AXX (by decide) rfl d4_91 ?_
          show Go p e below s n0 _ _ _ (T410.setTop (mkF m 92 #[rv rx, rv la, iv xk.toInt32, iv 4] [(.int 1)]))
          refine Go.st (fun _ => XS.aloadN X410.here C.hx rfl (hb C.hby d4_92) rfl rfl) ?_
          show Go p e below s n0 _ _ _ (T410.setTop (mkF m 93 #[rv rx, rv la, iv xk.toInt32, iv 4] [(.ref la), (.int 1)]))
          refine Go.st (fun _ => XS.iloadN X410.here C.hx rfl (hb C.hby d4_93) rfl) ?_
          show Go p e below s n0 _ _ _ (T410.setTop (mkF m 94 #[rv rx, rv la, iv xk.toInt32, iv 4] [(.int xk.toInt32), (.ref la), (.int 1)]))
          refine Go.st (fun _ => XS.iconst X410.here C.hx rfl (hb C.hby d4_94)) ?_
          show Go p e below s n0 _ _ _ (T410.setTop (mkF m 95 #[rv rx, rv la, iv xk.toInt32, iv 4] [(.int 1), (.int xk.toInt32), (.ref la), (.int 1)]))
          refine Go.callS C X410 (W := 1) (argsL := [(.ref la), (.int xk.toInt32), (.int 1)]) (rest := [(.int 1)]) (wd 36 rfl) (wd 37 rfl) (wd 34 rfl) (wd 38 rfl) (by decide) (con_kth1 l Z a0 hw n0 h0 X410.size la xk.toInt32 g0 g1 g2 g3 AL) (by decide) (by decide) rfl (lenOf pd_5 rfl) (Nat.le_of_ble_eq_true rfl) rfl d4_95 (by decide) (by decide) (fun T413 h413 v413 X413 hQ413 => ?_)
          obtain ⟨rfl, hh413⟩ := hQ413
          rw [hh413] at X413
          rw [show kthF g0.toInt32 g1.toInt32 g2.toInt32 g3.toInt32 xk.toInt32 1 = (1 : Int32) from by simp [kthF, hc10_262, hc22_334, hc35_374, hc48_396]]
          show Go p e below s n0 _ _ _ (T413.setTop (mkF m 98 #[rv rx, rv la, iv xk.toInt32, iv 4] [(.int 1), (.int 1)]))
          refine Go.icmp_eq C X413 (pc' := 103) d4_98 (by decide) (by decide) (fun _ => ?_) (fun hc => absurd hc (by decide))
          show Go p e below s n0 _ _ _ (T413.setTop (mkF m 103 #[rv rx, rv la, iv xk.toInt32, iv 4] []))
          refine Go.st (fun _ => XS.iloadN X413.here C.hx rfl (hb C.hby d4_103) rfl) ?_
          show Go p e below s n0 _ _ _ (T413.setTop (mkF m 104 #[rv rx, rv la, iv xk.toInt32, iv 4] [(.int 4)]))
          refine Go.st (fun _ => XS.iconst X413.here C.hx rfl (hb C.hby d4_104)) ?_
          show Go p e below s n0 _ _ _ (T413.setTop (mkF m 105 #[rv rx, rv la, iv xk.toInt32, iv 4] [(.int 2), (.int 4)]))
          refine Go.icmp_le C X413 (pc' := 122) d4_105 (by decide) (by decide) (fun hc => absurd hc (by decide)) (fun _ => ?_)
          show Go p e below s n0 _ _ _ (T413.setTop (mkF m 108 #[rv rx, rv la, iv xk.toInt32, iv 4] []))
          refine Go.st (fun _ => XS.aloadN X413.here C.hx rfl (hb C.hby d4_108) rfl rfl) ?_
          show Go p e below s n0 _ _ _ (T413.setTop (mkF m 109 #[rv rx, rv la, iv xk.toInt32, iv 4] [(.ref rx)]))
          refine Go.st (fun _ => XS.iconst X413.here C.hx rfl (hb C.hby d4_109)) ?_
          show Go p e below s n0 _ _ _ (T413.setTop (mkF m 110 #[rv rx, rv la, iv xk.toInt32, iv 4] [(.int 2), (.ref rx)]))
          refine Go.iaload C X413 AXX (by decide) rfl d4_110 ?_
          show Go p e below s n0 _ _ _ (T413.setTop (mkF m 111 #[rv rx, rv la, iv xk.toInt32, iv 4] [(.int 2)]))
          refine Go.st (fun _ => XS.aloadN X413.here C.hx rfl (hb C.hby d4_111) rfl rfl) ?_
          show Go p e below s n0 _ _ _ (T413.setTop (mkF m 112 #[rv rx, rv la, iv xk.toInt32, iv 4] [(.ref la), (.int 2)]))
          refine Go.st (fun _ => XS.iloadN X413.here C.hx rfl (hb C.hby d4_112) rfl) ?_
          show Go p e below s n0 _ _ _ (T413.setTop (mkF m 113 #[rv rx, rv la, iv xk.toInt32, iv 4] [(.int xk.toInt32), (.ref la), (.int 2)]))
          refine Go.st (fun _ => XS.iconst X413.here C.hx rfl (hb C.hby d4_113)) ?_
          show Go p e below s n0 _ _ _ (T413.setTop (mkF m 114 #[rv rx, rv la, iv xk.toInt32, iv 4] [(.int 2), (.int xk.toInt32), (.ref la), (.int 2)]))
          refine Go.callS C X413 (W := 1) (argsL := [(.ref la), (.int xk.toInt32), (.int 2)]) (rest := [(.int 2)]) (wd 36 rfl) (wd 37 rfl) (wd 34 rfl) (wd 38 rfl) (by decide) (con_kth2 l Z a0 hw n0 h0 X413.size la xk.toInt32 g0 g1 g2 g3 AL) (by decide) (by decide) rfl (lenOf pd_5 rfl) (Nat.le_of_ble_eq_true rfl) rfl d4_114 (by decide) (by decide) (fun T416 h416 v416 X416 hQ416 => ?_)
          obtain ⟨rfl, hh416⟩ := hQ416
          rw [hh416] at X416
          rw [show kthF g0.toInt32 g1.toInt32 g2.toInt32 g3.toInt32 xk.toInt32 2 = (2 : Int32) from by simp [kthF, hc10_262, hc22_334, hc35_374, hc48_396]]
          show Go p e below s n0 _ _ _ (T416.setTop (mkF m 117 #[rv rx, rv la, iv xk.toInt32, iv 4] [(.int 2), (.int 2)]))
          refine Go.icmp_eq C X416 (pc' := 122) d4_117 (by decide) (by decide) (fun _ => ?_) (fun hc => absurd hc (by decide))
          show Go p e below s n0 _ _ _ (T416.setTop (mkF m 122 #[rv rx, rv la, iv xk.toInt32, iv 4] []))
          refine Go.st (fun _ => XS.iloadN X416.here C.hx rfl (hb C.hby d4_122) rfl) ?_
          show Go p e below s n0 _ _ _ (T416.setTop (mkF m 123 #[rv rx, rv la, iv xk.toInt32, iv 4] [(.int 4)]))
          refine Go.st (fun _ => XS.iconst X416.here C.hx rfl (hb C.hby d4_123)) ?_
          show Go p e below s n0 _ _ _ (T416.setTop (mkF m 124 #[rv rx, rv la, iv xk.toInt32, iv 4] [(.int 3), (.int 4)]))
          refine Go.icmp_le C X416 (pc' := 141) d4_124 (by decide) (by decide) (fun hc => absurd hc (by decide)) (fun _ => ?_)
          show Go p e below s n0 _ _ _ (T416.setTop (mkF m 127 #[rv rx, rv la, iv xk.toInt32, iv 4] []))
          refine Go.st (fun _ => XS.aloadN X416.here C.hx rfl (hb C.hby d4_127) rfl rfl) ?_
          show Go p e below s n0 _ _ _ (T416.setTop (mkF m 128 #[rv rx, rv la, iv xk.toInt32, iv 4] [(.ref rx)]))
          refine Go.st (fun _ => XS.iconst X416.here C.hx rfl (hb C.hby d4_128)) ?_
          show Go p e below s n0 _ _ _ (T416.setTop (mkF m 129 #[rv rx, rv la, iv xk.toInt32, iv 4] [(.int 3), (.ref rx)]))
          refine Go.iaload C X416 AXX (by decide) rfl d4_129 ?_
          show Go p e below s n0 _ _ _ (T416.setTop (mkF m 130 #[rv rx, rv la, iv xk.toInt32, iv 4] [(.int 3)]))
          refine Go.st (fun _ => XS.aloadN X416.here C.hx rfl (hb C.hby d4_130) rfl rfl) ?_
          show Go p e below s n0 _ _ _ (T416.setTop (mkF m 131 #[rv rx, rv la, iv xk.toInt32, iv 4] [(.ref la), (.int 3)]))
          refine Go.st (fun _ => XS.iloadN X416.here C.hx rfl (hb C.hby d4_131) rfl) ?_
          show Go p e below s n0 _ _ _ (T416.setTop (mkF m 132 #[rv rx, rv la, iv xk.toInt32, iv 4] [(.int xk.toInt32), (.ref la), (.int 3)]))
          refine Go.st (fun _ => XS.iconst X416.here C.hx rfl (hb C.hby d4_132)) ?_
          show Go p e below s n0 _ _ _ (T416.setTop (mkF m 133 #[rv rx, rv la, iv xk.toInt32, iv 4] [(.int 3), (.int xk.toInt32), (.ref la), (.int 3)]))
          refine Go.callS C X416 (W := 1) (argsL := [(.ref la), (.int xk.toInt32), (.int 3)]) (rest := [(.int 3)]) (wd 36 rfl) (wd 37 rfl) (wd 34 rfl) (wd 38 rfl) (by decide) (con_kth3 l Z a0 hw n0 h0 X416.size la xk.toInt32 g0 g1 g2 g3 AL) (by decide) (by decide) rfl (lenOf pd_5 rfl) (Nat.le_of_ble_eq_true rfl) rfl d4_133 (by decide) (by decide) (fun T419 h419 v419 X419 hQ419 => ?_)
          obtain ⟨rfl, hh419⟩ := hQ419
          rw [hh419] at X419
          rw [show kthF g0.toInt32 g1.toInt32 g2.toInt32 g3.toInt32 xk.toInt32 3 = (3 : Int32) from by simp [kthF, hc10_262, hc22_334, hc35_374, hc48_396]]
          show Go p e below s n0 _ _ _ (T419.setTop (mkF m 136 #[rv rx, rv la, iv xk.toInt32, iv 4] [(.int 3), (.int 3)]))
          refine Go.icmp_eq C X419 (pc' := 141) d4_136 (by decide) (by decide) (fun _ => ?_) (fun hc => absurd hc (by decide))
          show Go p e below s n0 _ _ _ (T419.setTop (mkF m 141 #[rv rx, rv la, iv xk.toInt32, iv 4] []))
          refine Go.st (fun _ => XS.iconst X419.here C.hx rfl (hb C.hby d4_141)) ?_
          show Go p e below s n0 _ _ _ (T419.setTop (mkF m 142 #[rv rx, rv la, iv xk.toInt32, iv 4] [(.int 1)]))
          exact Go.retZ C X419 (by decide) d4_142 ⟨rfl, rfl⟩ (by decide) (by decide)
theorem pf_0 : plainFor x = true := plainFor_of_name (by first | (simp [plainName, overriddenIn]; done) | decide +kernel)
theorem pd_0 : parseMethodDescriptor "(IIIII)Z" = some ⟨[.int, .int, .int, .int, .int], some .boolean⟩ := by decide +kernel
theorem layOk {x z : Int32} (h : ((1 : Int32) + (x &&& (3 : Int32))) = z) : ∃ k : Nat, 0 < k ∧ k ≤ 4 ∧ z = k.toInt32 := by
  obtain ⟨h1, h2⟩ := c_and x 3 (by decide)
  have k3 : (3 : Int32).toInt = 3 := rfl
  have k1 : (1 : Int32).toInt = 1 := rfl
  have k0 : (0 : Int32).toInt = 0 := rfl
  rw [k3] at h2
  have e : z.toInt = 1 + (x &&& (3 : Int32)).toInt := by rw [← h, Int32.toInt_add, k1]; simp only [Int.bmod]; omega
  have hz : ¬ z < 0 := by rw [Int32.lt_iff_toInt_lt, k0]; omega
  refine ⟨z.toNatClampNeg, ?_, ?_, ((back32 hz).1).symm⟩ <;> simp only [Int32.toNatClampNeg] <;> omega
theorem modC (x : Int32) {c1 : Nat} (h0 : 0 < c1) (h4 : c1 ≤ 4) : ∃ g : Nat, g < c1 ∧ ((x &&& (2147483647 : Int32)) % c1.toInt32) = g.toInt32 := by
  have h1 := (c_and x 2147483647 (by decide)).1
  have hl := len_toInt (n := c1) (by omega)
  have h2 := (c_iremV (x &&& (2147483647 : Int32)) c1.toInt32).1 h1 (by rw [hl]; omega)
  rw [hl] at h2
  have k0 : (0 : Int32).toInt = 0 := rfl
  have hz : ¬ ((x &&& (2147483647 : Int32)) % c1.toInt32) < 0 := by rw [Int32.lt_iff_toInt_lt, k0]; omega
  refine ⟨((x &&& (2147483647 : Int32)) % c1.toInt32).toNatClampNeg, ?_, ((back32 hz).1).symm⟩
  simp only [Int32.toNatClampNeg]; omega
theorem ne0 {c1 : Nat} (h0 : 0 < c1) (h4 : c1 ≤ 4) : c1.toInt32 ≠ 0 := fun q => by
  have := (eqI (j := 0) (by omega) (by decide)).mp q
  omega
theorem ltUp {cc a b : Nat} (hc : cc ≤ 4) (ha : a < 10) (hb : b < 10) (hab : a ≤ b) (h : ¬ a.toInt32 < cc.toInt32) : ¬ b.toInt32 < cc.toInt32 := by
  rw [ltI (by omega) (by omega)] at h ⊢
  omega
theorem ltYes {cc a : Nat} (hc : cc ≤ 4) (ha : a < 10) (h : a.toInt32 < cc.toInt32) : a < cc := by
  rw [ltI (by omega) (by omega)] at h
  omega
set_option maxRecDepth 65536 in
set_option maxHeartbeats 40000000 in
theorem con_law (l : Launch) (Z : State) (a0 : Array Value) (hw : ∀ d ∈ tables_1, d.before a0 Z = true) (n0 : Nat) (h0 : Heap) (Z0 : n0 ≤ h0.size) (se xa xb xc xd : Int32)  :
    Con l Z x code maxLocals ret tables_1 room_1 n0 #[(.int se), (.int xa), (.int xb), (.int xc), (.int xd)] h0 (fun v h => v = some (.int 1)) := by
  refine Con.mk pf_0 hw Z0 ?_
  intro p e s m below meth c T0 C X0
  have ef : entryFrame m #[(.int se), (.int xa), (.int xb), (.int xc), (.int xd)] maxLocals = mkF m 0 #[iv se, iv xa, iv xb, iv xc, iv xd, .unset, .unset, .unset, .unset, .unset] [] := by first | (simp [entryFrame, mkF, argsToLocals, Value.category, maxLocals]; done) | rfl
  rw [ef]
  show Go p e below s n0 _ _ _ (T0.setTop (mkF m 0 #[iv se, iv xa, iv xb, iv xc, iv xd, .unset, .unset, .unset, .unset, .unset] []))
  refine Go.st (fun _ => XS.iconst X0.here C.hx rfl (hb C.hby at_0)) ?_
  show Go p e below s n0 _ _ _ (T0.setTop (mkF m 1 #[iv se, iv xa, iv xb, iv xc, iv xd, .unset, .unset, .unset, .unset, .unset] [(.int 1)]))
  refine Go.st (fun _ => XS.iloadN X0.here C.hx rfl (hb C.hby at_1) rfl) ?_
  show Go p e below s n0 _ _ _ (T0.setTop (mkF m 2 #[iv se, iv xa, iv xb, iv xc, iv xd, .unset, .unset, .unset, .unset, .unset] [(.int se), (.int 1)]))
  refine Go.st (fun _ => XS.iconst X0.here C.hx rfl (hb C.hby at_2)) ?_
  show Go p e below s n0 _ _ _ (T0.setTop (mkF m 3 #[iv se, iv xa, iv xb, iv xc, iv xd, .unset, .unset, .unset, .unset, .unset] [(.int 3), (.int se), (.int 1)]))
  refine Go.st (fun _ => XS.iand X0.here C.hx rfl (hb C.hby at_3) rfl) ?_
  show Go p e below s n0 _ _ _ (T0.setTop (mkF m 4 #[iv se, iv xa, iv xb, iv xc, iv xd, .unset, .unset, .unset, .unset, .unset] [(.int (se &&& (3 : Int32))), (.int 1)]))
  refine Go.st (fun _ => XS.iadd X0.here C.hx rfl (hb C.hby at_4) rfl) ?_
  show Go p e below s n0 _ _ _ (T0.setTop (mkF m 5 #[iv se, iv xa, iv xb, iv xc, iv xd, .unset, .unset, .unset, .unset, .unset] [(.int ((1 : Int32) + (se &&& (3 : Int32))))]))
  generalize hg_cz : ((1 : Int32) + (se &&& (3 : Int32))) = cz
  refine Go.st (fun _ => XS.istore X0.here C.hx rfl (hb C.hby at_5) rfl (l' := #[iv se, iv xa, iv xb, iv xc, iv xd, iv cz, .unset, .unset, .unset, .unset]) rfl) ?_
  obtain ⟨cc, hc0, hcc, rfl⟩ := layOk hg_cz
  show Go p e below s n0 _ _ _ (T0.setTop (mkF m 7 #[iv se, iv xa, iv xb, iv xc, iv xd, iv cc.toInt32, .unset, .unset, .unset, .unset] []))
  refine Go.st (fun _ => XS.iconst X0.here C.hx rfl (hb C.hby at_7)) ?_
  show Go p e below s n0 _ _ _ (T0.setTop (mkF m 8 #[iv se, iv xa, iv xb, iv xc, iv xd, iv cc.toInt32, .unset, .unset, .unset, .unset] [(.int 4)]))
  refine Go.newP C X0 (aty := .int) (cap := 4) (wd 0 rfl) at_8 (by decide) (by decide) (by decide) (by decide) (by decide) (fun T421 h421 b421 g421 ge421 X421 E421 A421 => ?_)
  have A_b421 : AR Z h421 b421 .int [(.int 0), (.int 0), (.int 0), (.int 0)] := A421
  show Go p e below s n0 _ _ _ (T421.setTop (mkF m 10 #[iv se, iv xa, iv xb, iv xc, iv xd, iv cc.toInt32, .unset, .unset, .unset, .unset] [(.ref b421)]))
  refine Go.st (fun _ => XS.astore X421.here C.hx rfl (hb C.hby at_10) rfl rfl (l' := #[iv se, iv xa, iv xb, iv xc, iv xd, iv cc.toInt32, rv b421, .unset, .unset, .unset]) rfl) ?_
  show Go p e below s n0 _ _ _ (T421.setTop (mkF m 12 #[iv se, iv xa, iv xb, iv xc, iv xd, iv cc.toInt32, rv b421, .unset, .unset, .unset] []))
  refine Go.st (fun _ => XS.aload X421.here C.hx rfl (hb C.hby at_12) rfl rfl) ?_
  show Go p e below s n0 _ _ _ (T421.setTop (mkF m 14 #[iv se, iv xa, iv xb, iv xc, iv xd, iv cc.toInt32, rv b421, .unset, .unset, .unset] [(.ref b421)]))
  refine Go.st (fun _ => XS.iconst X421.here C.hx rfl (hb C.hby at_14)) ?_
  show Go p e below s n0 _ _ _ (T421.setTop (mkF m 15 #[iv se, iv xa, iv xb, iv xc, iv xd, iv cc.toInt32, rv b421, .unset, .unset, .unset] [(.int 0), (.ref b421)]))
  refine Go.st (fun _ => XS.iloadN X421.here C.hx rfl (hb C.hby at_15) rfl) ?_
  show Go p e below s n0 _ _ _ (T421.setTop (mkF m 16 #[iv se, iv xa, iv xb, iv xc, iv xd, iv cc.toInt32, rv b421, .unset, .unset, .unset] [(.int xa), (.int 0), (.ref b421)]))
  refine Go.ldcI C X421 (wd 1 rfl) at_16 ?_
  show Go p e below s n0 _ _ _ (T421.setTop (mkF m 18 #[iv se, iv xa, iv xb, iv xc, iv xd, iv cc.toInt32, rv b421, .unset, .unset, .unset] [(.int 2147483647), (.int xa), (.int 0), (.ref b421)]))
  refine Go.st (fun _ => XS.iand X421.here C.hx rfl (hb C.hby at_18) rfl) ?_
  show Go p e below s n0 _ _ _ (T421.setTop (mkF m 19 #[iv se, iv xa, iv xb, iv xc, iv xd, iv cc.toInt32, rv b421, .unset, .unset, .unset] [(.int (xa &&& (2147483647 : Int32))), (.int 0), (.ref b421)]))
  refine Go.st (fun _ => XS.iload X421.here C.hx rfl (hb C.hby at_19) rfl) ?_
  show Go p e below s n0 _ _ _ (T421.setTop (mkF m 21 #[iv se, iv xa, iv xb, iv xc, iv xd, iv cc.toInt32, rv b421, .unset, .unset, .unset] [(.int cc.toInt32), (.int (xa &&& (2147483647 : Int32))), (.int 0), (.ref b421)]))
  refine Go.irem C X421 (ne0 hc0 hcc) at_21 ?_
  show Go p e below s n0 _ _ _ (T421.setTop (mkF m 22 #[iv se, iv xa, iv xb, iv xc, iv xd, iv cc.toInt32, rv b421, .unset, .unset, .unset] [(.int ((xa &&& (2147483647 : Int32)) % cc.toInt32)), (.int 0), (.ref b421)]))
  refine Go.iastore C X421 A_b421 (by decide) (Nat.le_of_ble_eq_true rfl) ge421 at_22 (fun T422 h422 X422 W422 A422 => ?_)
  have A_422 : AR Z h422 b421 .int [(.int ((xa &&& (2147483647 : Int32)) % cc.toInt32)), (.int 0), (.int 0), (.int 0)] := A422
  show Go p e below s n0 _ _ _ (T422.setTop (mkF m 23 #[iv se, iv xa, iv xb, iv xc, iv xd, iv cc.toInt32, rv b421, .unset, .unset, .unset] []))
  refine Go.st (fun _ => XS.aload X422.here C.hx rfl (hb C.hby at_23) rfl rfl) ?_
  show Go p e below s n0 _ _ _ (T422.setTop (mkF m 25 #[iv se, iv xa, iv xb, iv xc, iv xd, iv cc.toInt32, rv b421, .unset, .unset, .unset] [(.ref b421)]))
  refine Go.st (fun _ => XS.iconst X422.here C.hx rfl (hb C.hby at_25)) ?_
  show Go p e below s n0 _ _ _ (T422.setTop (mkF m 26 #[iv se, iv xa, iv xb, iv xc, iv xd, iv cc.toInt32, rv b421, .unset, .unset, .unset] [(.int 1), (.ref b421)]))
  refine Go.st (fun _ => XS.iloadN X422.here C.hx rfl (hb C.hby at_26) rfl) ?_
  show Go p e below s n0 _ _ _ (T422.setTop (mkF m 27 #[iv se, iv xa, iv xb, iv xc, iv xd, iv cc.toInt32, rv b421, .unset, .unset, .unset] [(.int xb), (.int 1), (.ref b421)]))
  refine Go.ldcI C X422 (wd 1 rfl) at_27 ?_
  show Go p e below s n0 _ _ _ (T422.setTop (mkF m 29 #[iv se, iv xa, iv xb, iv xc, iv xd, iv cc.toInt32, rv b421, .unset, .unset, .unset] [(.int 2147483647), (.int xb), (.int 1), (.ref b421)]))
  refine Go.st (fun _ => XS.iand X422.here C.hx rfl (hb C.hby at_29) rfl) ?_
  show Go p e below s n0 _ _ _ (T422.setTop (mkF m 30 #[iv se, iv xa, iv xb, iv xc, iv xd, iv cc.toInt32, rv b421, .unset, .unset, .unset] [(.int (xb &&& (2147483647 : Int32))), (.int 1), (.ref b421)]))
  refine Go.st (fun _ => XS.iload X422.here C.hx rfl (hb C.hby at_30) rfl) ?_
  show Go p e below s n0 _ _ _ (T422.setTop (mkF m 32 #[iv se, iv xa, iv xb, iv xc, iv xd, iv cc.toInt32, rv b421, .unset, .unset, .unset] [(.int cc.toInt32), (.int (xb &&& (2147483647 : Int32))), (.int 1), (.ref b421)]))
  refine Go.irem C X422 (ne0 hc0 hcc) at_32 ?_
  show Go p e below s n0 _ _ _ (T422.setTop (mkF m 33 #[iv se, iv xa, iv xb, iv xc, iv xd, iv cc.toInt32, rv b421, .unset, .unset, .unset] [(.int ((xb &&& (2147483647 : Int32)) % cc.toInt32)), (.int 1), (.ref b421)]))
  refine Go.iastore C X422 A_422 (by decide) (Nat.le_of_ble_eq_true rfl) ge421 at_33 (fun T423 h423 X423 W423 A423 => ?_)
  have A_423 : AR Z h423 b421 .int [(.int ((xa &&& (2147483647 : Int32)) % cc.toInt32)), (.int ((xb &&& (2147483647 : Int32)) % cc.toInt32)), (.int 0), (.int 0)] := A423
  show Go p e below s n0 _ _ _ (T423.setTop (mkF m 34 #[iv se, iv xa, iv xb, iv xc, iv xd, iv cc.toInt32, rv b421, .unset, .unset, .unset] []))
  refine Go.st (fun _ => XS.aload X423.here C.hx rfl (hb C.hby at_34) rfl rfl) ?_
  show Go p e below s n0 _ _ _ (T423.setTop (mkF m 36 #[iv se, iv xa, iv xb, iv xc, iv xd, iv cc.toInt32, rv b421, .unset, .unset, .unset] [(.ref b421)]))
  refine Go.st (fun _ => XS.iconst X423.here C.hx rfl (hb C.hby at_36)) ?_
  show Go p e below s n0 _ _ _ (T423.setTop (mkF m 37 #[iv se, iv xa, iv xb, iv xc, iv xd, iv cc.toInt32, rv b421, .unset, .unset, .unset] [(.int 2), (.ref b421)]))
  refine Go.st (fun _ => XS.iloadN X423.here C.hx rfl (hb C.hby at_37) rfl) ?_
  show Go p e below s n0 _ _ _ (T423.setTop (mkF m 38 #[iv se, iv xa, iv xb, iv xc, iv xd, iv cc.toInt32, rv b421, .unset, .unset, .unset] [(.int xc), (.int 2), (.ref b421)]))
  refine Go.ldcI C X423 (wd 1 rfl) at_38 ?_
  show Go p e below s n0 _ _ _ (T423.setTop (mkF m 40 #[iv se, iv xa, iv xb, iv xc, iv xd, iv cc.toInt32, rv b421, .unset, .unset, .unset] [(.int 2147483647), (.int xc), (.int 2), (.ref b421)]))
  refine Go.st (fun _ => XS.iand X423.here C.hx rfl (hb C.hby at_40) rfl) ?_
  show Go p e below s n0 _ _ _ (T423.setTop (mkF m 41 #[iv se, iv xa, iv xb, iv xc, iv xd, iv cc.toInt32, rv b421, .unset, .unset, .unset] [(.int (xc &&& (2147483647 : Int32))), (.int 2), (.ref b421)]))
  refine Go.st (fun _ => XS.iload X423.here C.hx rfl (hb C.hby at_41) rfl) ?_
  show Go p e below s n0 _ _ _ (T423.setTop (mkF m 43 #[iv se, iv xa, iv xb, iv xc, iv xd, iv cc.toInt32, rv b421, .unset, .unset, .unset] [(.int cc.toInt32), (.int (xc &&& (2147483647 : Int32))), (.int 2), (.ref b421)]))
  refine Go.irem C X423 (ne0 hc0 hcc) at_43 ?_
  show Go p e below s n0 _ _ _ (T423.setTop (mkF m 44 #[iv se, iv xa, iv xb, iv xc, iv xd, iv cc.toInt32, rv b421, .unset, .unset, .unset] [(.int ((xc &&& (2147483647 : Int32)) % cc.toInt32)), (.int 2), (.ref b421)]))
  refine Go.iastore C X423 A_423 (by decide) (Nat.le_of_ble_eq_true rfl) ge421 at_44 (fun T424 h424 X424 W424 A424 => ?_)
  have A_424 : AR Z h424 b421 .int [(.int ((xa &&& (2147483647 : Int32)) % cc.toInt32)), (.int ((xb &&& (2147483647 : Int32)) % cc.toInt32)), (.int ((xc &&& (2147483647 : Int32)) % cc.toInt32)), (.int 0)] := A424
  show Go p e below s n0 _ _ _ (T424.setTop (mkF m 45 #[iv se, iv xa, iv xb, iv xc, iv xd, iv cc.toInt32, rv b421, .unset, .unset, .unset] []))
  refine Go.st (fun _ => XS.aload X424.here C.hx rfl (hb C.hby at_45) rfl rfl) ?_
  show Go p e below s n0 _ _ _ (T424.setTop (mkF m 47 #[iv se, iv xa, iv xb, iv xc, iv xd, iv cc.toInt32, rv b421, .unset, .unset, .unset] [(.ref b421)]))
  refine Go.st (fun _ => XS.iconst X424.here C.hx rfl (hb C.hby at_47)) ?_
  show Go p e below s n0 _ _ _ (T424.setTop (mkF m 48 #[iv se, iv xa, iv xb, iv xc, iv xd, iv cc.toInt32, rv b421, .unset, .unset, .unset] [(.int 3), (.ref b421)]))
  refine Go.st (fun _ => XS.iload X424.here C.hx rfl (hb C.hby at_48) rfl) ?_
  show Go p e below s n0 _ _ _ (T424.setTop (mkF m 50 #[iv se, iv xa, iv xb, iv xc, iv xd, iv cc.toInt32, rv b421, .unset, .unset, .unset] [(.int xd), (.int 3), (.ref b421)]))
  refine Go.ldcI C X424 (wd 1 rfl) at_50 ?_
  show Go p e below s n0 _ _ _ (T424.setTop (mkF m 52 #[iv se, iv xa, iv xb, iv xc, iv xd, iv cc.toInt32, rv b421, .unset, .unset, .unset] [(.int 2147483647), (.int xd), (.int 3), (.ref b421)]))
  refine Go.st (fun _ => XS.iand X424.here C.hx rfl (hb C.hby at_52) rfl) ?_
  show Go p e below s n0 _ _ _ (T424.setTop (mkF m 53 #[iv se, iv xa, iv xb, iv xc, iv xd, iv cc.toInt32, rv b421, .unset, .unset, .unset] [(.int (xd &&& (2147483647 : Int32))), (.int 3), (.ref b421)]))
  refine Go.st (fun _ => XS.iload X424.here C.hx rfl (hb C.hby at_53) rfl) ?_
  show Go p e below s n0 _ _ _ (T424.setTop (mkF m 55 #[iv se, iv xa, iv xb, iv xc, iv xd, iv cc.toInt32, rv b421, .unset, .unset, .unset] [(.int cc.toInt32), (.int (xd &&& (2147483647 : Int32))), (.int 3), (.ref b421)]))
  refine Go.irem C X424 (ne0 hc0 hcc) at_55 ?_
  show Go p e below s n0 _ _ _ (T424.setTop (mkF m 56 #[iv se, iv xa, iv xb, iv xc, iv xd, iv cc.toInt32, rv b421, .unset, .unset, .unset] [(.int ((xd &&& (2147483647 : Int32)) % cc.toInt32)), (.int 3), (.ref b421)]))
  refine Go.iastore C X424 A_424 (by decide) (Nat.le_of_ble_eq_true rfl) ge421 at_56 (fun T425 h425 X425 W425 A425 => ?_)
  have A_425 : AR Z h425 b421 .int [(.int ((xa &&& (2147483647 : Int32)) % cc.toInt32)), (.int ((xb &&& (2147483647 : Int32)) % cc.toInt32)), (.int ((xc &&& (2147483647 : Int32)) % cc.toInt32)), (.int ((xd &&& (2147483647 : Int32)) % cc.toInt32))] := A425
  obtain ⟨g0, hg0, eg0⟩ := modC xa hc0 hcc
  obtain ⟨g1, hg1, eg1⟩ := modC xb hc0 hcc
  obtain ⟨g2, hg2, eg2⟩ := modC xc hc0 hcc
  obtain ⟨g3, hg3, eg3⟩ := modC xd hc0 hcc
  have AFR : AR Z h425 b421 .int [(.int g0.toInt32), (.int g1.toInt32), (.int g2.toInt32), (.int g3.toInt32)] := by have u := A_425; rw [eg0, eg1, eg2, eg3] at u; exact u
  show Go p e below s n0 _ _ _ (T425.setTop (mkF m 57 #[iv se, iv xa, iv xb, iv xc, iv xd, iv cc.toInt32, rv b421, .unset, .unset, .unset] []))
  refine Go.newO C X425 (wd 2 rfl) (wd 3 rfl) (wd 4 rfl) at_57 (by decide) (by decide) (fun T426 h426 b426 g426 ge426 X426 E426 A426 D426 => ?_)
  have ne_b421_b426 : b421 ≠ b426 := Nat.ne_of_lt (Nat.lt_of_lt_of_le (AFR).lt (Nat.le_of_eq g426))
  have F_layers_b426 : Fld Z h426 b426 "com/example/layrd/layrd/layout/LayeredGraph" "layers" "I" (.int 0) := D426 (Or.inr (wd 13 rfl)) (ty := .int) (by decide)
  have F_itemLayer_b426 : Fld Z h426 b426 "com/example/layrd/layrd/layout/LayeredGraph" "itemLayer" "[I" .null := D426 (Or.inr (wd 15 rfl)) (ty := (.array .int)) (by decide)
  have F_width_b426 : Fld Z h426 b426 "com/example/layrd/layrd/layout/LayeredGraph" "width" "[D" .null := D426 (Or.inr (wd 17 rfl)) (ty := (.array .double)) (by decide)
  have F_boxes_b426 : Fld Z h426 b426 "com/example/layrd/layrd/layout/LayeredGraph" "boxes" "I" (.int 0) := D426 (Or.inr (wd 19 rfl)) (ty := .int) (by decide)
  have F_upper_b426 : Fld Z h426 b426 "com/example/layrd/layrd/layout/LayeredGraph" "upper" "[I" .null := D426 (Or.inr (wd 21 rfl)) (ty := (.array .int)) (by decide)
  have F_lower_b426 : Fld Z h426 b426 "com/example/layrd/layrd/layout/LayeredGraph" "lower" "[I" .null := D426 (Or.inr (wd 23 rfl)) (ty := (.array .int)) (by decide)
  show Go p e below s n0 _ _ _ (T426.setTop (mkF m 60 #[iv se, iv xa, iv xb, iv xc, iv xd, iv cc.toInt32, rv b421, .unset, .unset, .unset] [(.ref b426)]))
  refine Go.st (fun _ => XS.dup X426.here C.hx rfl (hb C.hby at_60) rfl rfl) ?_
  show Go p e below s n0 _ _ _ (T426.setTop (mkF m 61 #[iv se, iv xa, iv xb, iv xc, iv xd, iv cc.toInt32, rv b421, .unset, .unset, .unset] [(.ref b426), (.ref b426)]))
  refine Go.st (fun _ => XS.iload X426.here C.hx rfl (hb C.hby at_61) rfl) ?_
  show Go p e below s n0 _ _ _ (T426.setTop (mkF m 63 #[iv se, iv xa, iv xb, iv xc, iv xd, iv cc.toInt32, rv b421, .unset, .unset, .unset] [(.int cc.toInt32), (.ref b426), (.ref b426)]))
  refine Go.st (fun _ => XS.aload X426.here C.hx rfl (hb C.hby at_63) rfl rfl) ?_
  show Go p e below s n0 _ _ _ (T426.setTop (mkF m 65 #[iv se, iv xa, iv xb, iv xc, iv xd, iv cc.toInt32, rv b421, .unset, .unset, .unset] [(.ref b421), (.int cc.toInt32), (.ref b426), (.ref b426)]))
  refine Go.st (fun _ => XS.iconst X426.here C.hx rfl (hb C.hby at_65)) ?_
  show Go p e below s n0 _ _ _ (T426.setTop (mkF m 66 #[iv se, iv xa, iv xb, iv xc, iv xd, iv cc.toInt32, rv b421, .unset, .unset, .unset] [(.int 4), (.ref b421), (.int cc.toInt32), (.ref b426), (.ref b426)]))
  refine Go.newP C X426 (aty := .double) (cap := 4) (wd 5 rfl) at_66 (by decide) (by decide) (by decide) (by decide) (by decide) (fun T427 h427 b427 g427 ge427 X427 E427 A427 => ?_)
  have ne_b421_b427 : b421 ≠ b427 := Nat.ne_of_lt (Nat.lt_of_lt_of_le ((AFR.ext E426)).lt (Nat.le_of_eq g427))
  have ne_b426_b427 : b426 ≠ b427 := Nat.ne_of_lt (Nat.lt_of_lt_of_le (A426).lt (Nat.le_of_eq g427))
  have A_b427 : AR Z h427 b427 .double [(defaultValue .double), (defaultValue .double), (defaultValue .double), (defaultValue .double)] := A427
  show Go p e below s n0 _ _ _ (T427.setTop (mkF m 68 #[iv se, iv xa, iv xb, iv xc, iv xd, iv cc.toInt32, rv b421, .unset, .unset, .unset] [(.ref b427), (.ref b421), (.int cc.toInt32), (.ref b426), (.ref b426)]))
  refine Go.st (fun _ => XS.iconst X427.here C.hx rfl (hb C.hby at_68)) ?_
  show Go p e below s n0 _ _ _ (T427.setTop (mkF m 69 #[iv se, iv xa, iv xb, iv xc, iv xd, iv cc.toInt32, rv b421, .unset, .unset, .unset] [(.int 2), (.ref b427), (.ref b421), (.int cc.toInt32), (.ref b426), (.ref b426)]))
  refine Go.st (fun _ => XS.iconst X427.here C.hx rfl (hb C.hby at_69)) ?_
  show Go p e below s n0 _ _ _ (T427.setTop (mkF m 70 #[iv se, iv xa, iv xb, iv xc, iv xd, iv cc.toInt32, rv b421, .unset, .unset, .unset] [(.int 0), (.int 2), (.ref b427), (.ref b421), (.int cc.toInt32), (.ref b426), (.ref b426)]))
  refine Go.newP C X427 (aty := .int) (cap := 0) (wd 0 rfl) at_70 (by decide) (by decide) (by decide) (by decide) (by decide) (fun T428 h428 b428 g428 ge428 X428 E428 A428 => ?_)
  have ne_b421_b428 : b421 ≠ b428 := Nat.ne_of_lt (Nat.lt_of_lt_of_le (((AFR.ext E426).ext E427)).lt (Nat.le_of_eq g428))
  have ne_b426_b428 : b426 ≠ b428 := Nat.ne_of_lt (Nat.lt_of_lt_of_le ((Exa.ext E427 A426)).lt (Nat.le_of_eq g428))
  have ne_b427_b428 : b427 ≠ b428 := Nat.ne_of_lt (Nat.lt_of_lt_of_le (A_b427).lt (Nat.le_of_eq g428))
  have A_b428 : AR Z h428 b428 .int [] := A428
  have F_layers_b426_429 : Fld Z h428 b426 "com/example/layrd/layrd/layout/LayeredGraph" "layers" "I" (.int 0) := (Fld.ext E428 (Fld.ext E427 F_layers_b426))
  have F_itemLayer_b426_430 : Fld Z h428 b426 "com/example/layrd/layrd/layout/LayeredGraph" "itemLayer" "[I" .null := (Fld.ext E428 (Fld.ext E427 F_itemLayer_b426))
  have F_width_b426_431 : Fld Z h428 b426 "com/example/layrd/layrd/layout/LayeredGraph" "width" "[D" .null := (Fld.ext E428 (Fld.ext E427 F_width_b426))
  have F_boxes_b426_432 : Fld Z h428 b426 "com/example/layrd/layrd/layout/LayeredGraph" "boxes" "I" (.int 0) := (Fld.ext E428 (Fld.ext E427 F_boxes_b426))
  have F_upper_b426_433 : Fld Z h428 b426 "com/example/layrd/layrd/layout/LayeredGraph" "upper" "[I" .null := (Fld.ext E428 (Fld.ext E427 F_upper_b426))
  have F_lower_b426_434 : Fld Z h428 b426 "com/example/layrd/layrd/layout/LayeredGraph" "lower" "[I" .null := (Fld.ext E428 (Fld.ext E427 F_lower_b426))
  show Go p e below s n0 _ _ _ (T428.setTop (mkF m 72 #[iv se, iv xa, iv xb, iv xc, iv xd, iv cc.toInt32, rv b421, .unset, .unset, .unset] [(.ref b428), (.int 2), (.ref b427), (.ref b421), (.int cc.toInt32), (.ref b426), (.ref b426)]))
  refine Go.st (fun _ => XS.iconst X428.here C.hx rfl (hb C.hby at_72)) ?_
  show Go p e below s n0 _ _ _ (T428.setTop (mkF m 73 #[iv se, iv xa, iv xb, iv xc, iv xd, iv cc.toInt32, rv b421, .unset, .unset, .unset] [(.int 0), (.ref b428), (.int 2), (.ref b427), (.ref b421), (.int cc.toInt32), (.ref b426), (.ref b426)]))
  refine Go.newP C X428 (aty := .int) (cap := 0) (wd 0 rfl) at_73 (by decide) (by decide) (by decide) (by decide) (by decide) (fun T435 h435 b435 g435 ge435 X435 E435 A435 => ?_)
  have ne_b421_b435 : b421 ≠ b435 := Nat.ne_of_lt (Nat.lt_of_lt_of_le ((((AFR.ext E426).ext E427).ext E428)).lt (Nat.le_of_eq g435))
  have ne_b426_b435 : b426 ≠ b435 := Nat.ne_of_lt (Nat.lt_of_lt_of_le ((Exa.ext E428 (Exa.ext E427 A426))).lt (Nat.le_of_eq g435))
  have ne_b427_b435 : b427 ≠ b435 := Nat.ne_of_lt (Nat.lt_of_lt_of_le ((A_b427.ext E428)).lt (Nat.le_of_eq g435))
  have ne_b428_b435 : b428 ≠ b435 := Nat.ne_of_lt (Nat.lt_of_lt_of_le (A_b428).lt (Nat.le_of_eq g435))
  have A_b435 : AR Z h435 b435 .int [] := A435
  have A_b421_436 : AR Z h435 b421 .int [(.int g0.toInt32), (.int g1.toInt32), (.int g2.toInt32), (.int g3.toInt32)] := ((((AFR.ext E426).ext E427).ext E428).ext E435)
  have E_b426_437 : Exa Z h435 b426 "com/example/layrd/layrd/layout/LayeredGraph" := (Exa.ext E435 (Exa.ext E428 (Exa.ext E427 A426)))
  show Go p e below s n0 _ _ _ (T435.setTop (mkF m 75 #[iv se, iv xa, iv xb, iv xc, iv xd, iv cc.toInt32, rv b421, .unset, .unset, .unset] [(.ref b435), (.ref b428), (.int 2), (.ref b427), (.ref b421), (.int cc.toInt32), (.ref b426), (.ref b426)]))
  refine Go.callInit C X435 (W := 1) (argsL := [(.int cc.toInt32), (.ref b421), (.ref b427), (.int 2), (.ref b428), (.ref b435)]) (rest := [(.ref b426)]) (a := b426) rfl (wd 6 rfl) (wd 7 rfl) (wd 4 rfl) (wd 8 rfl) (by decide) (con_init l Z a0 hw n0 h435 X435.size b426 cc.toInt32 (2 : Int32) b421 b427 b428 b435 ge426 E_b426_437 (Fld.ext E435 F_layers_b426_429) (Fld.ext E435 F_itemLayer_b426_430) (Fld.ext E435 F_width_b426_431) (Fld.ext E435 F_boxes_b426_432) (Fld.ext E435 F_upper_b426_433) (Fld.ext E435 F_lower_b426_434)) (by decide) (by decide) rfl (lenOf pd_1 rfl) (Nat.le_of_ble_eq_true rfl) rfl at_75 (by decide) (by decide) (fun T438 h438 v438 X438 hQ438 => ?_)
  obtain ⟨rfl, E438, FL438, FI438, K438⟩ := hQ438
  have AL_439 : AR Z h438 b421 .int [(.int g0.toInt32), (.int g1.toInt32), (.int g2.toInt32), (.int g3.toInt32)] := (A_b421_436.keep K438 (ninS ne_b421_b426 nin0))
  show Go p e below s n0 _ _ _ (T438.setTop (mkF m 78 #[iv se, iv xa, iv xb, iv xc, iv xd, iv cc.toInt32, rv b421, .unset, .unset, .unset] [(.ref b426)]))
  refine Go.st (fun _ => XS.astore X438.here C.hx rfl (hb C.hby at_78) rfl rfl (l' := #[iv se, iv xa, iv xb, iv xc, iv xd, iv cc.toInt32, rv b421, rv b426, .unset, .unset]) rfl) ?_
  show Go p e below s n0 _ _ _ (T438.setTop (mkF m 80 #[iv se, iv xa, iv xb, iv xc, iv xd, iv cc.toInt32, rv b421, rv b426, .unset, .unset] []))
  refine Go.st (fun _ => XS.aload X438.here C.hx rfl (hb C.hby at_80) rfl rfl) ?_
  show Go p e below s n0 _ _ _ (T438.setTop (mkF m 82 #[iv se, iv xa, iv xb, iv xc, iv xd, iv cc.toInt32, rv b421, rv b426, .unset, .unset] [(.ref b426)]))
  refine Go.callV C X438 (W := 0) (argsL := []) (rest := []) (a := b426) E438 (wd 24 rfl) (wd 25 rfl) (wd 27 rfl) (wd 26 rfl) (wd 4 rfl) (wd 28 rfl) (by decide) rfl (con_item l Z a0 hw n0 h438 X438.size cc 4 (fsF g0 g1 g2 g3) b426 b421 hcc (by decide) (fun j hj => match j, hj with | 0, _ => hg0 | 1, _ => hg1 | 2, _ => hg2 | 3, _ => hg3) AL_439 FL438 FI438) (by decide) (by decide) rfl (lenOf pd_3 rfl) (Nat.le_of_ble_eq_true rfl) rfl at_82 (by decide) (by decide) (fun T440 h440 v440 X440 hQ440 => ?_)
  obtain ⟨ad440, rs440, rfl, O440, RF440, K440⟩ := hQ440
  show Go p e below s n0 _ _ _ (T440.setTop (mkF m 85 #[iv se, iv xa, iv xb, iv xc, iv xd, iv cc.toInt32, rv b421, rv b426, .unset, .unset] [(.ref ad440)]))
  refine Go.st (fun _ => XS.astore X440.here C.hx rfl (hb C.hby at_85) rfl rfl (l' := #[iv se, iv xa, iv xb, iv xc, iv xd, iv cc.toInt32, rv b421, rv b426, rv ad440, .unset]) rfl) ?_
  show Go p e below s n0 _ _ _ (T440.setTop (mkF m 87 #[iv se, iv xa, iv xb, iv xc, iv xd, iv cc.toInt32, rv b421, rv b426, rv ad440, .unset] []))
  refine Go.st (fun _ => XS.aload X440.here C.hx rfl (hb C.hby at_87) rfl rfl) ?_
  show Go p e below s n0 _ _ _ (T440.setTop (mkF m 89 #[iv se, iv xa, iv xb, iv xc, iv xd, iv cc.toInt32, rv b421, rv b426, rv ad440, .unset] [(.ref ad440)]))
  refine Go.st (fun _ => XS.ifnullNo X440.here C.hx rfl (hb C.hby at_89) rfl) ?_
  show Go p e below s n0 _ _ _ (T440.setTop (mkF m 92 #[iv se, iv xa, iv xb, iv xc, iv xd, iv cc.toInt32, rv b421, rv b426, rv ad440, .unset] []))
  refine Go.st (fun _ => XS.aload X440.here C.hx rfl (hb C.hby at_92) rfl rfl) ?_
  show Go p e below s n0 _ _ _ (T440.setTop (mkF m 94 #[iv se, iv xa, iv xb, iv xc, iv xd, iv cc.toInt32, rv b421, rv b426, rv ad440, .unset] [(.ref ad440)]))
  refine Go.alen C X440 (O440).ar (z := cc.toInt32) (by rw [ou_len]) at_94 ?_
  show Go p e below s n0 _ _ _ (T440.setTop (mkF m 95 #[iv se, iv xa, iv xb, iv xc, iv xd, iv cc.toInt32, rv b421, rv b426, rv ad440, .unset] [(.int cc.toInt32)]))
  refine Go.st (fun _ => XS.iload X440.here C.hx rfl (hb C.hby at_95) rfl) ?_
  show Go p e below s n0 _ _ _ (T440.setTop (mkF m 97 #[iv se, iv xa, iv xb, iv xc, iv xd, iv cc.toInt32, rv b421, rv b426, rv ad440, .unset] [(.int cc.toInt32), (.int cc.toInt32)]))
  refine Go.icmp_eq C X440 (pc' := 102) at_97 (by decide) (by decide) (fun _ => ?_) (fun hc => by first | exact absurd hc rfl | exact absurd rfl hc)
  show Go p e below s n0 _ _ _ (T440.setTop (mkF m 102 #[iv se, iv xa, iv xb, iv xc, iv xd, iv cc.toInt32, rv b421, rv b426, rv ad440, .unset] []))
  refine Go.st (fun _ => XS.aload X440.here C.hx rfl (hb C.hby at_102) rfl rfl) ?_
  show Go p e below s n0 _ _ _ (T440.setTop (mkF m 104 #[iv se, iv xa, iv xb, iv xc, iv xd, iv cc.toInt32, rv b421, rv b426, rv ad440, .unset] [(.ref ad440)]))
  refine Go.st (fun _ => XS.iconst X440.here C.hx rfl (hb C.hby at_104)) ?_
  show Go p e below s n0 _ _ _ (T440.setTop (mkF m 105 #[iv se, iv xa, iv xb, iv xc, iv xd, iv cc.toInt32, rv b421, rv b426, rv ad440, .unset] [(.int 0), (.ref ad440)]))
  refine Go.aaload C X440 (O440).ar rfl (by decide) (ou_get (t := 0) hcc hc0) at_105 ?_
  show Go p e below s n0 _ _ _ (T440.setTop (mkF m 106 #[iv se, iv xa, iv xb, iv xc, iv xd, iv cc.toInt32, rv b421, rv b426, rv ad440, .unset] [(.ref (rs440 0))]))
  refine Go.st (fun _ => XS.aload X440.here C.hx rfl (hb C.hby at_106) rfl rfl) ?_
  show Go p e below s n0 _ _ _ (T440.setTop (mkF m 108 #[iv se, iv xa, iv xb, iv xc, iv xd, iv cc.toInt32, rv b421, rv b426, rv ad440, .unset] [(.ref b421), (.ref (rs440 0))]))
  refine Go.st (fun _ => XS.iconst X440.here C.hx rfl (hb C.hby at_108)) ?_
  show Go p e below s n0 _ _ _ (T440.setTop (mkF m 109 #[iv se, iv xa, iv xb, iv xc, iv xd, iv cc.toInt32, rv b421, rv b426, rv ad440, .unset] [(.int 0), (.ref b421), (.ref (rs440 0))]))
  refine Go.callS C X440 (W := 0) (argsL := [(.ref (rs440 0)), (.ref b421), (.int 0)]) (rest := []) (wd 32 rfl) (wd 33 rfl) (wd 34 rfl) (wd 35 rfl) (by decide) (con_rowOk l Z a0 hw n0 h440 X440.size (rs440 0) b421 (0 : Int32) cc 0 g0 g1 g2 g3 (by decide) (by omega) (by omega) (by omega) (by omega) (by decide) (RF440 0 hc0) (AL_439.keep K440 nin0)) (by decide) (by decide) rfl (lenOf pd_4 rfl) (Nat.le_of_ble_eq_true rfl) rfl at_109 (by decide) (by decide) (fun T442 h442 v442 X442 hQ442 => ?_)
  obtain ⟨rfl, hh442⟩ := hQ442
  rw [hh442] at X442
  show Go p e below s n0 _ _ _ (T442.setTop (mkF m 112 #[iv se, iv xa, iv xb, iv xc, iv xd, iv cc.toInt32, rv b421, rv b426, rv ad440, .unset] [(.int 1)]))
  refine Go.st (fun _ => XS.istore X442.here C.hx rfl (hb C.hby at_112) rfl (l' := #[iv se, iv xa, iv xb, iv xc, iv xd, iv cc.toInt32, rv b421, rv b426, rv ad440, iv 1]) rfl) ?_
  show Go p e below s n0 _ _ _ (T442.setTop (mkF m 114 #[iv se, iv xa, iv xb, iv xc, iv xd, iv cc.toInt32, rv b421, rv b426, rv ad440, iv 1] []))
  refine Go.st (fun _ => XS.iload X442.here C.hx rfl (hb C.hby at_114) rfl) ?_
  show Go p e below s n0 _ _ _ (T442.setTop (mkF m 116 #[iv se, iv xa, iv xb, iv xc, iv xd, iv cc.toInt32, rv b421, rv b426, rv ad440, iv 1] [(.int cc.toInt32)]))
  refine Go.st (fun _ => XS.iconst X442.here C.hx rfl (hb C.hby at_116)) ?_
  show Go p e below s n0 _ _ _ (T442.setTop (mkF m 117 #[iv se, iv xa, iv xb, iv xc, iv xd, iv cc.toInt32, rv b421, rv b426, rv ad440, iv 1] [(.int 1), (.int cc.toInt32)]))
  refine Go.icmp_le C X442 (pc' := 145) at_117 (by decide) (by decide) (fun hc117_443 => ?_) (fun hc117_443 => ?_)
  · show Go p e below s n0 _ _ _ (T442.setTop (mkF m 145 #[iv se, iv xa, iv xb, iv xc, iv xd, iv cc.toInt32, rv b421, rv b426, rv ad440, iv 1] []))
    refine Go.st (fun _ => XS.iload X442.here C.hx rfl (hb C.hby at_145) rfl) ?_
    show Go p e below s n0 _ _ _ (T442.setTop (mkF m 147 #[iv se, iv xa, iv xb, iv xc, iv xd, iv cc.toInt32, rv b421, rv b426, rv ad440, iv 1] [(.int cc.toInt32)]))
    refine Go.st (fun _ => XS.iconst X442.here C.hx rfl (hb C.hby at_147)) ?_
    show Go p e below s n0 _ _ _ (T442.setTop (mkF m 148 #[iv se, iv xa, iv xb, iv xc, iv xd, iv cc.toInt32, rv b421, rv b426, rv ad440, iv 1] [(.int 2), (.int cc.toInt32)]))
    refine Go.icmp_le C X442 (pc' := 176) at_148 (by decide) (by decide) (fun _ => ?_) (fun hc => by first | exact absurd hc (ltUp (a := 1) (b := 2) hcc (by decide) (by decide) (by decide) hc117_443) | exact absurd (ltUp (a := 1) (b := 2) hcc (by decide) (by decide) (by decide) hc117_443) hc)
    show Go p e below s n0 _ _ _ (T442.setTop (mkF m 176 #[iv se, iv xa, iv xb, iv xc, iv xd, iv cc.toInt32, rv b421, rv b426, rv ad440, iv 1] []))
    refine Go.st (fun _ => XS.iload X442.here C.hx rfl (hb C.hby at_176) rfl) ?_
    show Go p e below s n0 _ _ _ (T442.setTop (mkF m 178 #[iv se, iv xa, iv xb, iv xc, iv xd, iv cc.toInt32, rv b421, rv b426, rv ad440, iv 1] [(.int cc.toInt32)]))
    refine Go.st (fun _ => XS.iconst X442.here C.hx rfl (hb C.hby at_178)) ?_
    show Go p e below s n0 _ _ _ (T442.setTop (mkF m 179 #[iv se, iv xa, iv xb, iv xc, iv xd, iv cc.toInt32, rv b421, rv b426, rv ad440, iv 1] [(.int 3), (.int cc.toInt32)]))
    refine Go.icmp_le C X442 (pc' := 207) at_179 (by decide) (by decide) (fun _ => ?_) (fun hc => by first | exact absurd hc (ltUp (a := 1) (b := 3) hcc (by decide) (by decide) (by decide) hc117_443) | exact absurd (ltUp (a := 1) (b := 3) hcc (by decide) (by decide) (by decide) hc117_443) hc)
    show Go p e below s n0 _ _ _ (T442.setTop (mkF m 207 #[iv se, iv xa, iv xb, iv xc, iv xd, iv cc.toInt32, rv b421, rv b426, rv ad440, iv 1] []))
    refine Go.st (fun _ => XS.iload X442.here C.hx rfl (hb C.hby at_207) rfl) ?_
    show Go p e below s n0 _ _ _ (T442.setTop (mkF m 209 #[iv se, iv xa, iv xb, iv xc, iv xd, iv cc.toInt32, rv b421, rv b426, rv ad440, iv 1] [(.int 1)]))
    exact Go.retZ C X442 (by decide) at_209 rfl (by decide) (by decide)
  · show Go p e below s n0 _ _ _ (T442.setTop (mkF m 120 #[iv se, iv xa, iv xb, iv xc, iv xd, iv cc.toInt32, rv b421, rv b426, rv ad440, iv 1] []))
    refine Go.st (fun _ => XS.iload X442.here C.hx rfl (hb C.hby at_120) rfl) ?_
    show Go p e below s n0 _ _ _ (T442.setTop (mkF m 122 #[iv se, iv xa, iv xb, iv xc, iv xd, iv cc.toInt32, rv b421, rv b426, rv ad440, iv 1] [(.int 1)]))
    refine Go.if_eq C X442 (pc' := 142) at_122 (by decide) (by decide) (fun hc => absurd hc (by decide)) (fun _ => ?_)
    show Go p e below s n0 _ _ _ (T442.setTop (mkF m 125 #[iv se, iv xa, iv xb, iv xc, iv xd, iv cc.toInt32, rv b421, rv b426, rv ad440, iv 1] []))
    refine Go.st (fun _ => XS.aload X442.here C.hx rfl (hb C.hby at_125) rfl rfl) ?_
    show Go p e below s n0 _ _ _ (T442.setTop (mkF m 127 #[iv se, iv xa, iv xb, iv xc, iv xd, iv cc.toInt32, rv b421, rv b426, rv ad440, iv 1] [(.ref ad440)]))
    refine Go.st (fun _ => XS.iconst X442.here C.hx rfl (hb C.hby at_127)) ?_
    show Go p e below s n0 _ _ _ (T442.setTop (mkF m 128 #[iv se, iv xa, iv xb, iv xc, iv xd, iv cc.toInt32, rv b421, rv b426, rv ad440, iv 1] [(.int 1), (.ref ad440)]))
    refine Go.aaload C X442 (O440).ar rfl (by decide) (ou_get (t := 1) hcc (ltYes (a := 1) hcc (by decide) hc117_443)) at_128 ?_
    show Go p e below s n0 _ _ _ (T442.setTop (mkF m 129 #[iv se, iv xa, iv xb, iv xc, iv xd, iv cc.toInt32, rv b421, rv b426, rv ad440, iv 1] [(.ref (rs440 1))]))
    refine Go.st (fun _ => XS.aload X442.here C.hx rfl (hb C.hby at_129) rfl rfl) ?_
    show Go p e below s n0 _ _ _ (T442.setTop (mkF m 131 #[iv se, iv xa, iv xb, iv xc, iv xd, iv cc.toInt32, rv b421, rv b426, rv ad440, iv 1] [(.ref b421), (.ref (rs440 1))]))
    refine Go.st (fun _ => XS.iconst X442.here C.hx rfl (hb C.hby at_131)) ?_
    show Go p e below s n0 _ _ _ (T442.setTop (mkF m 132 #[iv se, iv xa, iv xb, iv xc, iv xd, iv cc.toInt32, rv b421, rv b426, rv ad440, iv 1] [(.int 1), (.ref b421), (.ref (rs440 1))]))
    refine Go.callS C X442 (W := 0) (argsL := [(.ref (rs440 1)), (.ref b421), (.int 1)]) (rest := []) (wd 32 rfl) (wd 33 rfl) (wd 34 rfl) (wd 35 rfl) (by decide) (con_rowOk l Z a0 hw n0 h440 X442.size (rs440 1) b421 (1 : Int32) cc 1 g0 g1 g2 g3 (by decide) (by omega) (by omega) (by omega) (by omega) (by decide) (RF440 1 (ltYes (a := 1) hcc (by decide) hc117_443)) (AL_439.keep K440 nin0)) (by decide) (by decide) rfl (lenOf pd_4 rfl) (Nat.le_of_ble_eq_true rfl) rfl at_132 (by decide) (by decide) (fun T447 h447 v447 X447 hQ447 => ?_)
    obtain ⟨rfl, hh447⟩ := hQ447
    rw [hh447] at X447
    show Go p e below s n0 _ _ _ (T447.setTop (mkF m 135 #[iv se, iv xa, iv xb, iv xc, iv xd, iv cc.toInt32, rv b421, rv b426, rv ad440, iv 1] [(.int 1)]))
    refine Go.if_eq C X447 (pc' := 142) at_135 (by decide) (by decide) (fun hc => absurd hc (by decide)) (fun _ => ?_)
    show Go p e below s n0 _ _ _ (T447.setTop (mkF m 138 #[iv se, iv xa, iv xb, iv xc, iv xd, iv cc.toInt32, rv b421, rv b426, rv ad440, iv 1] []))
    refine Go.st (fun _ => XS.iconst X447.here C.hx rfl (hb C.hby at_138)) ?_
    show Go p e below s n0 _ _ _ (T447.setTop (mkF m 139 #[iv se, iv xa, iv xb, iv xc, iv xd, iv cc.toInt32, rv b421, rv b426, rv ad440, iv 1] [(.int 1)]))
    refine Go.st (fun _ => XS.goto X447.here C.hx rfl (pc0 := 139) (pc' := 143) rfl (hb C.hby at_139) (by decide) (by decide)) ?_
    show Go p e below s n0 _ _ _ (T447.setTop (mkF m 143 #[iv se, iv xa, iv xb, iv xc, iv xd, iv cc.toInt32, rv b421, rv b426, rv ad440, iv 1] [(.int 1)]))
    refine Go.st (fun _ => XS.istore X447.here C.hx rfl (hb C.hby at_143) rfl (l' := #[iv se, iv xa, iv xb, iv xc, iv xd, iv cc.toInt32, rv b421, rv b426, rv ad440, iv 1]) rfl) ?_
    show Go p e below s n0 _ _ _ (T447.setTop (mkF m 145 #[iv se, iv xa, iv xb, iv xc, iv xd, iv cc.toInt32, rv b421, rv b426, rv ad440, iv 1] []))
    refine Go.st (fun _ => XS.iload X447.here C.hx rfl (hb C.hby at_145) rfl) ?_
    show Go p e below s n0 _ _ _ (T447.setTop (mkF m 147 #[iv se, iv xa, iv xb, iv xc, iv xd, iv cc.toInt32, rv b421, rv b426, rv ad440, iv 1] [(.int cc.toInt32)]))
    refine Go.st (fun _ => XS.iconst X447.here C.hx rfl (hb C.hby at_147)) ?_
    show Go p e below s n0 _ _ _ (T447.setTop (mkF m 148 #[iv se, iv xa, iv xb, iv xc, iv xd, iv cc.toInt32, rv b421, rv b426, rv ad440, iv 1] [(.int 2), (.int cc.toInt32)]))
    refine Go.icmp_le C X447 (pc' := 176) at_148 (by decide) (by decide) (fun hc148_449 => ?_) (fun hc148_449 => ?_)
    · show Go p e below s n0 _ _ _ (T447.setTop (mkF m 176 #[iv se, iv xa, iv xb, iv xc, iv xd, iv cc.toInt32, rv b421, rv b426, rv ad440, iv 1] []))
      refine Go.st (fun _ => XS.iload X447.here C.hx rfl (hb C.hby at_176) rfl) ?_
      show Go p e below s n0 _ _ _ (T447.setTop (mkF m 178 #[iv se, iv xa, iv xb, iv xc, iv xd, iv cc.toInt32, rv b421, rv b426, rv ad440, iv 1] [(.int cc.toInt32)]))
      refine Go.st (fun _ => XS.iconst X447.here C.hx rfl (hb C.hby at_178)) ?_
      show Go p e below s n0 _ _ _ (T447.setTop (mkF m 179 #[iv se, iv xa, iv xb, iv xc, iv xd, iv cc.toInt32, rv b421, rv b426, rv ad440, iv 1] [(.int 3), (.int cc.toInt32)]))
      refine Go.icmp_le C X447 (pc' := 207) at_179 (by decide) (by decide) (fun _ => ?_) (fun hc => by first | exact absurd hc (ltUp (a := 2) (b := 3) hcc (by decide) (by decide) (by decide) hc148_449) | exact absurd (ltUp (a := 2) (b := 3) hcc (by decide) (by decide) (by decide) hc148_449) hc)
      show Go p e below s n0 _ _ _ (T447.setTop (mkF m 207 #[iv se, iv xa, iv xb, iv xc, iv xd, iv cc.toInt32, rv b421, rv b426, rv ad440, iv 1] []))
      refine Go.st (fun _ => XS.iload X447.here C.hx rfl (hb C.hby at_207) rfl) ?_
      show Go p e below s n0 _ _ _ (T447.setTop (mkF m 209 #[iv se, iv xa, iv xb, iv xc, iv xd, iv cc.toInt32, rv b421, rv b426, rv ad440, iv 1] [(.int 1)]))
      exact Go.retZ C X447 (by decide) at_209 rfl (by decide) (by decide)
    · show Go p e below s n0 _ _ _ (T447.setTop (mkF m 151 #[iv se, iv xa, iv xb, iv xc, iv xd, iv cc.toInt32, rv b421, rv b426, rv ad440, iv 1] []))
      refine Go.st (fun _ => XS.iload X447.here C.hx rfl (hb C.hby at_151) rfl) ?_
      show Go p e below s n0 _ _ _ (T447.setTop (mkF m 153 #[iv se, iv xa, iv xb, iv xc, iv xd, iv cc.toInt32, rv b421, rv b426, rv ad440, iv 1] [(.int 1)]))
      refine Go.if_eq C X447 (pc' := 173) at_153 (by decide) (by decide) (fun hc => absurd hc (by decide)) (fun _ => ?_)
      show Go p e below s n0 _ _ _ (T447.setTop (mkF m 156 #[iv se, iv xa, iv xb, iv xc, iv xd, iv cc.toInt32, rv b421, rv b426, rv ad440, iv 1] []))
      refine Go.st (fun _ => XS.aload X447.here C.hx rfl (hb C.hby at_156) rfl rfl) ?_
      show Go p e below s n0 _ _ _ (T447.setTop (mkF m 158 #[iv se, iv xa, iv xb, iv xc, iv xd, iv cc.toInt32, rv b421, rv b426, rv ad440, iv 1] [(.ref ad440)]))
      refine Go.st (fun _ => XS.iconst X447.here C.hx rfl (hb C.hby at_158)) ?_
      show Go p e below s n0 _ _ _ (T447.setTop (mkF m 159 #[iv se, iv xa, iv xb, iv xc, iv xd, iv cc.toInt32, rv b421, rv b426, rv ad440, iv 1] [(.int 2), (.ref ad440)]))
      refine Go.aaload C X447 (O440).ar rfl (by decide) (ou_get (t := 2) hcc (ltYes (a := 2) hcc (by decide) hc148_449)) at_159 ?_
      show Go p e below s n0 _ _ _ (T447.setTop (mkF m 160 #[iv se, iv xa, iv xb, iv xc, iv xd, iv cc.toInt32, rv b421, rv b426, rv ad440, iv 1] [(.ref (rs440 2))]))
      refine Go.st (fun _ => XS.aload X447.here C.hx rfl (hb C.hby at_160) rfl rfl) ?_
      show Go p e below s n0 _ _ _ (T447.setTop (mkF m 162 #[iv se, iv xa, iv xb, iv xc, iv xd, iv cc.toInt32, rv b421, rv b426, rv ad440, iv 1] [(.ref b421), (.ref (rs440 2))]))
      refine Go.st (fun _ => XS.iconst X447.here C.hx rfl (hb C.hby at_162)) ?_
      show Go p e below s n0 _ _ _ (T447.setTop (mkF m 163 #[iv se, iv xa, iv xb, iv xc, iv xd, iv cc.toInt32, rv b421, rv b426, rv ad440, iv 1] [(.int 2), (.ref b421), (.ref (rs440 2))]))
      refine Go.callS C X447 (W := 0) (argsL := [(.ref (rs440 2)), (.ref b421), (.int 2)]) (rest := []) (wd 32 rfl) (wd 33 rfl) (wd 34 rfl) (wd 35 rfl) (by decide) (con_rowOk l Z a0 hw n0 h440 X447.size (rs440 2) b421 (2 : Int32) cc 2 g0 g1 g2 g3 (by decide) (by omega) (by omega) (by omega) (by omega) (by decide) (RF440 2 (ltYes (a := 2) hcc (by decide) hc148_449)) (AL_439.keep K440 nin0)) (by decide) (by decide) rfl (lenOf pd_4 rfl) (Nat.le_of_ble_eq_true rfl) rfl at_163 (by decide) (by decide) (fun T452 h452 v452 X452 hQ452 => ?_)
      obtain ⟨rfl, hh452⟩ := hQ452
      rw [hh452] at X452
      show Go p e below s n0 _ _ _ (T452.setTop (mkF m 166 #[iv se, iv xa, iv xb, iv xc, iv xd, iv cc.toInt32, rv b421, rv b426, rv ad440, iv 1] [(.int 1)]))
      refine Go.if_eq C X452 (pc' := 173) at_166 (by decide) (by decide) (fun hc => absurd hc (by decide)) (fun _ => ?_)
      show Go p e below s n0 _ _ _ (T452.setTop (mkF m 169 #[iv se, iv xa, iv xb, iv xc, iv xd, iv cc.toInt32, rv b421, rv b426, rv ad440, iv 1] []))
      refine Go.st (fun _ => XS.iconst X452.here C.hx rfl (hb C.hby at_169)) ?_
      show Go p e below s n0 _ _ _ (T452.setTop (mkF m 170 #[iv se, iv xa, iv xb, iv xc, iv xd, iv cc.toInt32, rv b421, rv b426, rv ad440, iv 1] [(.int 1)]))
      refine Go.st (fun _ => XS.goto X452.here C.hx rfl (pc0 := 170) (pc' := 174) rfl (hb C.hby at_170) (by decide) (by decide)) ?_
      show Go p e below s n0 _ _ _ (T452.setTop (mkF m 174 #[iv se, iv xa, iv xb, iv xc, iv xd, iv cc.toInt32, rv b421, rv b426, rv ad440, iv 1] [(.int 1)]))
      refine Go.st (fun _ => XS.istore X452.here C.hx rfl (hb C.hby at_174) rfl (l' := #[iv se, iv xa, iv xb, iv xc, iv xd, iv cc.toInt32, rv b421, rv b426, rv ad440, iv 1]) rfl) ?_
      show Go p e below s n0 _ _ _ (T452.setTop (mkF m 176 #[iv se, iv xa, iv xb, iv xc, iv xd, iv cc.toInt32, rv b421, rv b426, rv ad440, iv 1] []))
      refine Go.st (fun _ => XS.iload X452.here C.hx rfl (hb C.hby at_176) rfl) ?_
      show Go p e below s n0 _ _ _ (T452.setTop (mkF m 178 #[iv se, iv xa, iv xb, iv xc, iv xd, iv cc.toInt32, rv b421, rv b426, rv ad440, iv 1] [(.int cc.toInt32)]))
      refine Go.st (fun _ => XS.iconst X452.here C.hx rfl (hb C.hby at_178)) ?_
      show Go p e below s n0 _ _ _ (T452.setTop (mkF m 179 #[iv se, iv xa, iv xb, iv xc, iv xd, iv cc.toInt32, rv b421, rv b426, rv ad440, iv 1] [(.int 3), (.int cc.toInt32)]))
      refine Go.icmp_le C X452 (pc' := 207) at_179 (by decide) (by decide) (fun hc179_454 => ?_) (fun hc179_454 => ?_)
      · show Go p e below s n0 _ _ _ (T452.setTop (mkF m 207 #[iv se, iv xa, iv xb, iv xc, iv xd, iv cc.toInt32, rv b421, rv b426, rv ad440, iv 1] []))
        refine Go.st (fun _ => XS.iload X452.here C.hx rfl (hb C.hby at_207) rfl) ?_
        show Go p e below s n0 _ _ _ (T452.setTop (mkF m 209 #[iv se, iv xa, iv xb, iv xc, iv xd, iv cc.toInt32, rv b421, rv b426, rv ad440, iv 1] [(.int 1)]))
        exact Go.retZ C X452 (by decide) at_209 rfl (by decide) (by decide)
      · show Go p e below s n0 _ _ _ (T452.setTop (mkF m 182 #[iv se, iv xa, iv xb, iv xc, iv xd, iv cc.toInt32, rv b421, rv b426, rv ad440, iv 1] []))
        refine Go.st (fun _ => XS.iload X452.here C.hx rfl (hb C.hby at_182) rfl) ?_
        show Go p e below s n0 _ _ _ (T452.setTop (mkF m 184 #[iv se, iv xa, iv xb, iv xc, iv xd, iv cc.toInt32, rv b421, rv b426, rv ad440, iv 1] [(.int 1)]))
        refine Go.if_eq C X452 (pc' := 204) at_184 (by decide) (by decide) (fun hc => absurd hc (by decide)) (fun _ => ?_)
        show Go p e below s n0 _ _ _ (T452.setTop (mkF m 187 #[iv se, iv xa, iv xb, iv xc, iv xd, iv cc.toInt32, rv b421, rv b426, rv ad440, iv 1] []))
        refine Go.st (fun _ => XS.aload X452.here C.hx rfl (hb C.hby at_187) rfl rfl) ?_
        show Go p e below s n0 _ _ _ (T452.setTop (mkF m 189 #[iv se, iv xa, iv xb, iv xc, iv xd, iv cc.toInt32, rv b421, rv b426, rv ad440, iv 1] [(.ref ad440)]))
        refine Go.st (fun _ => XS.iconst X452.here C.hx rfl (hb C.hby at_189)) ?_
        show Go p e below s n0 _ _ _ (T452.setTop (mkF m 190 #[iv se, iv xa, iv xb, iv xc, iv xd, iv cc.toInt32, rv b421, rv b426, rv ad440, iv 1] [(.int 3), (.ref ad440)]))
        refine Go.aaload C X452 (O440).ar rfl (by decide) (ou_get (t := 3) hcc (ltYes (a := 3) hcc (by decide) hc179_454)) at_190 ?_
        show Go p e below s n0 _ _ _ (T452.setTop (mkF m 191 #[iv se, iv xa, iv xb, iv xc, iv xd, iv cc.toInt32, rv b421, rv b426, rv ad440, iv 1] [(.ref (rs440 3))]))
        refine Go.st (fun _ => XS.aload X452.here C.hx rfl (hb C.hby at_191) rfl rfl) ?_
        show Go p e below s n0 _ _ _ (T452.setTop (mkF m 193 #[iv se, iv xa, iv xb, iv xc, iv xd, iv cc.toInt32, rv b421, rv b426, rv ad440, iv 1] [(.ref b421), (.ref (rs440 3))]))
        refine Go.st (fun _ => XS.iconst X452.here C.hx rfl (hb C.hby at_193)) ?_
        show Go p e below s n0 _ _ _ (T452.setTop (mkF m 194 #[iv se, iv xa, iv xb, iv xc, iv xd, iv cc.toInt32, rv b421, rv b426, rv ad440, iv 1] [(.int 3), (.ref b421), (.ref (rs440 3))]))
        refine Go.callS C X452 (W := 0) (argsL := [(.ref (rs440 3)), (.ref b421), (.int 3)]) (rest := []) (wd 32 rfl) (wd 33 rfl) (wd 34 rfl) (wd 35 rfl) (by decide) (con_rowOk l Z a0 hw n0 h440 X452.size (rs440 3) b421 (3 : Int32) cc 3 g0 g1 g2 g3 (by decide) (by omega) (by omega) (by omega) (by omega) (by decide) (RF440 3 (ltYes (a := 3) hcc (by decide) hc179_454)) (AL_439.keep K440 nin0)) (by decide) (by decide) rfl (lenOf pd_4 rfl) (Nat.le_of_ble_eq_true rfl) rfl at_194 (by decide) (by decide) (fun T456 h456 v456 X456 hQ456 => ?_)
        obtain ⟨rfl, hh456⟩ := hQ456
        rw [hh456] at X456
        show Go p e below s n0 _ _ _ (T456.setTop (mkF m 197 #[iv se, iv xa, iv xb, iv xc, iv xd, iv cc.toInt32, rv b421, rv b426, rv ad440, iv 1] [(.int 1)]))
        refine Go.if_eq C X456 (pc' := 204) at_197 (by decide) (by decide) (fun hc => absurd hc (by decide)) (fun _ => ?_)
        show Go p e below s n0 _ _ _ (T456.setTop (mkF m 200 #[iv se, iv xa, iv xb, iv xc, iv xd, iv cc.toInt32, rv b421, rv b426, rv ad440, iv 1] []))
        refine Go.st (fun _ => XS.iconst X456.here C.hx rfl (hb C.hby at_200)) ?_
        show Go p e below s n0 _ _ _ (T456.setTop (mkF m 201 #[iv se, iv xa, iv xb, iv xc, iv xd, iv cc.toInt32, rv b421, rv b426, rv ad440, iv 1] [(.int 1)]))
        refine Go.st (fun _ => XS.goto X456.here C.hx rfl (pc0 := 201) (pc' := 205) rfl (hb C.hby at_201) (by decide) (by decide)) ?_
        show Go p e below s n0 _ _ _ (T456.setTop (mkF m 205 #[iv se, iv xa, iv xb, iv xc, iv xd, iv cc.toInt32, rv b421, rv b426, rv ad440, iv 1] [(.int 1)]))
        refine Go.st (fun _ => XS.istore X456.here C.hx rfl (hb C.hby at_205) rfl (l' := #[iv se, iv xa, iv xb, iv xc, iv xd, iv cc.toInt32, rv b421, rv b426, rv ad440, iv 1]) rfl) ?_
        show Go p e below s n0 _ _ _ (T456.setTop (mkF m 207 #[iv se, iv xa, iv xb, iv xc, iv xd, iv cc.toInt32, rv b421, rv b426, rv ad440, iv 1] []))
        refine Go.st (fun _ => XS.iload X456.here C.hx rfl (hb C.hby at_207) rfl) ?_
        show Go p e below s n0 _ _ _ (T456.setTop (mkF m 209 #[iv se, iv xa, iv xb, iv xc, iv xd, iv cc.toInt32, rv b421, rv b426, rv ad440, iv 1] [(.int 1)]))
        exact Go.retZ C X456 (by decide) at_209 rfl (by decide) (by decide)
set_option maxRecDepth 65536 in
set_option maxHeartbeats 40000000 in
theorem comes_1 {Post : Tables → Env → Array Value → State → Outcome → State → Prop} (hpost : ∀ tb e args s v u, (limb_1_1.after args s (.returned v) u = true ∧ limb_1_2.after args s (.returned v) u = true ∧ True) → FrameEnd s (.returned v) u (Jvm.fieldLocs frame_1_writes args s ++ Jvm.arrayLocs frame_1_arrays args s ++ Jvm.staticLocs frame_1_statics s) 32 128 → Post tb e args s (.returned v) u) :
    ArmFor flags0 classFile x code maxLocals ret World_1 tables_1 room_1 Calls_1 rest_1 Pre_1 Post := by
  intro l hfl _ _ p e ha hc hk s m args below hf hA hF happ hP
  obtain ⟨hcalls, hrest, hpre⟩ := hP
  obtain ⟨-, -, -, hnamed, -, -, -, hat⟩ := (Spec.applies_iff hf).mp happ
  obtain ⟨hg, hn⟩ := and_e (Cond.before_iff.mp (show (Jvm.Cond.and given_1 narrow_1).before args s = true from hpre))
  obtain ⟨h1, hr0⟩ := and_e hg
  obtain ⟨ha0, hr1⟩ := and_e hr0
  obtain ⟨ha1, hr2⟩ := and_e hr1
  obtain ⟨ha2, hr3⟩ := and_e hr2
  obtain ⟨ha3, hr4⟩ := and_e hr3
  have ha4 := hr4
  obtain ⟨w0, w1, w2, w3, w4, rfl⟩ : ∃ w0 w1 w2 w3 w4 : Value, args = #[w0, w1, w2, w3, w4] := by
    have hs : args.size = 5 := by simpa [Cond.value, given_1] using h1
    obtain ⟨L⟩ := args
    match L, hs with
    | [w0, w1, w2, w3, w4], _ => exact ⟨w0, w1, w2, w3, w4, rfl⟩
  have hw := fun d (hd : d ∈ tables_1) => atoms_spec (ws := Jvm.Cond.code x code maxLocals ret :: tables_1) hat d (List.mem_cons_of_mem _ hd)
  obtain ⟨i0, e0⟩ := is_v ha0
  obtain rfl : w0 = (.int i0) := Option.some.inj e0
  obtain ⟨i1, e1⟩ := is_v ha1
  obtain rfl : w1 = (.int i1) := Option.some.inj e1
  obtain ⟨i2, e2⟩ := is_v ha2
  obtain rfl : w2 = (.int i2) := Option.some.inj e2
  obtain ⟨i3, e3⟩ := is_v ha3
  obtain rfl : w3 = (.int i3) := Option.some.inj e3
  obtain ⟨i4, e4⟩ := is_v ha4
  obtain rfl : w4 = (.int i4) := Option.some.inj e4
  obtain ⟨n, o, h1, h2, h3, _, L, rfl, ⟨rfl, N⟩, hq⟩ := con_law l s _ hw s.heap.size s.heap (Nat.le_refl _) i0 i1 i2 i3 i4  p e ha hc hk s m _ below hf ((Spec.applies_iff_loose hf).mp happ).1 ⟨rfl, State.Warmed39.refl s, rfl⟩ trivial
  refine ⟨n, _, h1, h2, h3, hpost _ _ _ _ _ _ ⟨Cond.after_iff.mpr rfl, Cond.after_iff.mpr (eq_i res_at (Term.int_eval (1)) rfl), trivial⟩ ⟨hq.1, hq.2.1, (hq.2.2.sift fun y hy => Or.inr (N y hy)).mono (by decide) (by decide)⟩⟩
theorem main_1_1 : Claimed_1_1 := comes_1 fun _ _ _ _ _ _ h hF => ⟨h.1, hF⟩
theorem main_1_2 : Claimed_1_2 := comes_1 fun _ _ _ _ _ _ h hF => ⟨h.2.1, hF⟩
end Jvm.Pilot.@@N@@
namespace Jvm.Pilot.@@N@@
open Jvm Jvm.ClassFile Sem Op Lib Jvm.Free Jvm.Stand Jvm.Pilot.@@N@@.Jvm.D
/-! MADE BY PROGRAM (witnessworld.py) out of the Statement's table words and the real class files: 9 classes; the members and pool entries that the words name. The judged class is class 1, her method 1. -/
namespace start1
open Jvm.ClassFile
def u (s : String) : CpInfo := .utf8 (stringToUtf16 s)
/-- a pool by its gaps: so many unusable entries, then the entry; so many at the end -/
def gap : Nat → List CpInfo → List CpInfo
  | 0, r => r
  | n + 1, r => .unusable :: gap n r
def poolList (es : List (Nat × CpInfo)) (last : Nat) : List CpInfo := es.foldr (fun e r => gap e.1 (e.2 :: r)) (gap last [])
def pool (es : List (Nat × CpInfo)) (last : Nat) : Array CpInfo := ⟨poolList es last⟩
def fileOf (pool : Array CpInfo) (this : Nat) (attrs : Array Attribute := #[]) (ms : Array MethodInfo := #[]) (fl : Nat := 33) (sup : Nat := 0) (ifs : Array Nat := #[]) (fds : Array FieldInfo := #[]) : ClassFile where
  minorVersion := 0
  majorVersion := 65
  constantPool := pool
  accessFlags := fl
  thisClass := this
  superClass := sup
  interfaces := ifs
  fields := fds
  methods := ms
  attributes := attrs
def plain (name : String) (sup : Option ClassId) : Class where
  name := name
  kind := .ordinary
  loader := none
  accessFlags := 33
  super := sup
  interfaces := #[]
  cf := none
  fields := #[]
  methods := #[]
  instanceTypes := #[]
  staticTypes := #[]
  resolved := #[]
  callSites := []
  init := .initialized
  statics := none
  mirror := none

def pool0 : Array CpInfo := pool [(5, u "<init>"), (0, u "()V"), (1, .class_ 10), (1, u "java/lang/Object")] 113

def k0c0 : Code := { maxStack := 0, maxLocals := 1, code := object_method_1_code, exceptionTable := #[], attributes := #[] }
def k0m0 : Method := { name := "<init>", desc := "()V", sig := { parameters := [], returnType := none }, accessFlags := 1, code := some k0c0 }
/-- java/lang/Object -/
def k0 : Class := { plain "java/lang/Object" none with
  accessFlags := 33
  interfaces := #[]
  cf := some (fileOf pool0 8 #[] #[{ accessFlags := 1, nameIndex := 5, descriptorIndex := 6, attributes := #[] }] 33 0 #[] #[])
  fields := #[]
  methods := #[k0m0]
  instanceTypes := #[]
  staticTypes := #[]
  resolved := Array.replicate 124 none
  statics := none }

def pool1 : Array CpInfo := pool [(2, .class_ 4), (1, u "java/lang/Object"), (0, u "<init>"), (0, u "()V"), (0, .integer 2147483647), (0, .class_ 9), (0, u "com/example/layrd/layrd/layout/LayeredGraph"), (0, .methodref 8 11), (0, .nameAndType 5 12), (0, u "(I[I[DI[I[I)V"), (0, .methodref 8 14), (0, .nameAndType 15 16), (0, u "itemOrder"), (0, u "()[[I"), (0, .methodref 18 19), (0, .class_ 20), (0, .nameAndType 21 22), (0, u "com/example/layrd/layrd/layout/LayeredGraphItemOrderPinLaw"), (0, u "rowOk"), (0, u "([I[II)Z"), (0, .methodref 18 24), (0, .nameAndType 25 26), (0, u "kth"), (0, u "([III)I"), (2, u "law"), (0, u "(IIIII)Z")] 7

def k1m0 : Method := { name := "<init>", desc := "()V", sig := { parameters := [], returnType := none }, accessFlags := 1, code := none }
def k1c1 : Code := { maxStack := 8, maxLocals := 10, code := code, exceptionTable := #[], attributes := #[] }
def k1m1 : Method := { name := "law", desc := "(IIIII)Z", sig := { parameters := [.int, .int, .int, .int, .int], returnType := some .boolean }, accessFlags := 9, code := some k1c1 }
def k1c2 : Code := { maxStack := 2, maxLocals := 4, code := method_3_code, exceptionTable := #[], attributes := #[] }
def k1m2 : Method := { name := "kth", desc := "([III)I", sig := { parameters := [(.array .int), .int, .int], returnType := some .int }, accessFlags := 10, code := some k1c2 }
def k1c3 : Code := { maxStack := 4, maxLocals := 4, code := method_4_code, exceptionTable := #[], attributes := #[] }
def k1m3 : Method := { name := "rowOk", desc := "([I[II)Z", sig := { parameters := [(.array .int), (.array .int), .int], returnType := some .boolean }, accessFlags := 10, code := some k1c3 }
/-- com/example/layrd/layrd/layout/LayeredGraphItemOrderPinLaw -/
def k1 : Class := { plain "com/example/layrd/layrd/layout/LayeredGraphItemOrderPinLaw" (some 0) with
  accessFlags := 49
  interfaces := #[]
  cf := some (fileOf pool1 18 #[] #[{ accessFlags := 1, nameIndex := 5, descriptorIndex := 6, attributes := #[] }, { accessFlags := 9, nameIndex := 29, descriptorIndex := 30, attributes := #[] }, { accessFlags := 10, nameIndex := 25, descriptorIndex := 26, attributes := #[] }, { accessFlags := 10, nameIndex := 21, descriptorIndex := 22, attributes := #[] }] 49 2 #[] #[])
  fields := #[]
  methods := #[k1m0, k1m1, k1m2, k1m3]
  instanceTypes := #[]
  staticTypes := #[]
  resolved := Array.replicate 38 none
  statics := none }

def pool2 : Array CpInfo := pool [(7, .methodref 8 9), (0, .class_ 10), (0, .nameAndType 11 12), (0, u "java/lang/Object"), (0, u "<init>"), (0, u "()V"), (0, .fieldref 14 15), (0, .class_ 16), (0, .nameAndType 17 18), (0, u "com/example/layrd/layrd/layout/LayeredGraph"), (0, u "layers"), (0, u "I"), (0, .fieldref 14 20), (0, .nameAndType 21 22), (0, u "itemLayer"), (0, u "[I"), (0, .fieldref 14 24), (0, .nameAndType 25 26), (0, u "width"), (0, u "[D"), (0, .fieldref 14 28), (0, .nameAndType 29 18), (0, u "boxes"), (0, .fieldref 14 31), (0, .nameAndType 32 22), (0, u "upper"), (0, .fieldref 14 34), (0, .nameAndType 35 22), (0, u "lower"), (43, .class_ 22), (38, u "MOST"), (1, u "ITEM_BYTES"), (0, u "J"), (0, u "SEGMENT_BYTES"), (0, u "(I[I[DI[I[I)V"), (9, u "itemOrder"), (0, u "()[[I")] 28

def k2c0 : Code := { maxStack := 2, maxLocals := 7, code := prog_77_method_1_code, exceptionTable := #[], attributes := #[] }
def k2m0 : Method := { name := "<init>", desc := "(I[I[DI[I[I)V", sig := { parameters := [.int, (.array .int), (.array .double), .int, (.array .int), (.array .int)], returnType := none }, accessFlags := 0, code := some k2c0 }
def k2c1 : Code := { maxStack := 6, maxLocals := 6, code := prog_77_method_11_code, exceptionTable := #[], attributes := #[] }
def k2m1 : Method := { name := "itemOrder", desc := "()[[I", sig := { parameters := [], returnType := some (.array (.array .int)) }, accessFlags := 1, code := some k2c1 }
/-- com/example/layrd/layrd/layout/LayeredGraph -/
def k2 : Class := { plain "com/example/layrd/layrd/layout/LayeredGraph" (some 0) with
  accessFlags := 49
  interfaces := #[]
  cf := some (fileOf pool2 14 #[] #[{ accessFlags := 0, nameIndex := 11, descriptorIndex := 123, attributes := #[] }, { accessFlags := 1, nameIndex := 133, descriptorIndex := 134, attributes := #[] }] 49 8 #[] #[{ accessFlags := 24, nameIndex := 118, descriptorIndex := 18, attributes := #[] }, { accessFlags := 26, nameIndex := 120, descriptorIndex := 121, attributes := #[] }, { accessFlags := 26, nameIndex := 122, descriptorIndex := 121, attributes := #[] }, { accessFlags := 18, nameIndex := 17, descriptorIndex := 18, attributes := #[] }, { accessFlags := 18, nameIndex := 21, descriptorIndex := 22, attributes := #[] }, { accessFlags := 18, nameIndex := 25, descriptorIndex := 26, attributes := #[] }, { accessFlags := 18, nameIndex := 29, descriptorIndex := 18, attributes := #[] }, { accessFlags := 18, nameIndex := 32, descriptorIndex := 22, attributes := #[] }, { accessFlags := 18, nameIndex := 35, descriptorIndex := 22, attributes := #[] }])
  fields := #[{ name := "MOST", type := .int, accessFlags := 24, slot := 0, constantValue := 0 }, { name := "ITEM_BYTES", type := .long, accessFlags := 26, slot := 1, constantValue := 0 }, { name := "SEGMENT_BYTES", type := .long, accessFlags := 26, slot := 2, constantValue := 0 }, { name := "layers", type := .int, accessFlags := 18, slot := 0, constantValue := 0 }, { name := "itemLayer", type := (.array .int), accessFlags := 18, slot := 1, constantValue := 0 }, { name := "width", type := (.array .double), accessFlags := 18, slot := 2, constantValue := 0 }, { name := "boxes", type := .int, accessFlags := 18, slot := 3, constantValue := 0 }, { name := "upper", type := (.array .int), accessFlags := 18, slot := 4, constantValue := 0 }, { name := "lower", type := (.array .int), accessFlags := 18, slot := 5, constantValue := 0 }]
  methods := #[k2m0, k2m1]
  instanceTypes := #[.int, (.array .int), (.array .double), .int, (.array .int), (.array .int)]
  staticTypes := #[.int, .long, .long]
  resolved := Array.replicate 163 none
  statics := none }

def pool3 : Array CpInfo := pool [(1, u "java/lang/Cloneable"), (0, .class_ 1), (0, u "java/lang/Object"), (0, .class_ 3)] 3

/-- java/lang/Cloneable -/
def k3 : Class := { plain "java/lang/Cloneable" (some 0) with
  accessFlags := 1537
  interfaces := #[]
  cf := some (fileOf pool3 2 #[] #[] 1537 4 #[] #[])
  fields := #[]
  methods := #[]
  instanceTypes := #[]
  staticTypes := #[]
  resolved := Array.replicate 8 none
  statics := none }

def pool4 : Array CpInfo := pool [(1, u "java/io/Serializable"), (0, .class_ 1), (0, u "java/lang/Object"), (0, .class_ 3)] 3

/-- java/io/Serializable -/
def k4 : Class := { plain "java/io/Serializable" (some 0) with
  accessFlags := 1537
  interfaces := #[]
  cf := some (fileOf pool4 2 #[] #[] 1537 4 #[] #[])
  fields := #[]
  methods := #[]
  instanceTypes := #[]
  staticTypes := #[]
  resolved := Array.replicate 8 none
  statics := none }

/-- the primitive byte -/
def k5 : Class := { plain "byte" none with kind := .primitive 'B', accessFlags := 0x411 }
/-- [B -/
def k6 : Class := { plain "[B" (some 0) with kind := .array 5 .byte, interfaces := #[3, 4], accessFlags := 1041 }

/-- the primitive int -/
def k7 : Class := { plain "int" none with kind := .primitive 'I', accessFlags := 0x411 }
/-- [I -/
def k8 : Class := { plain "[I" (some 0) with kind := .array 7 .int, interfaces := #[3, 4], accessFlags := 1041 }

def heap : Heap := #[]
def k9 : Class := { plain "double" none with kind := .primitive 'D', accessFlags := 0x411 }
def k10 : Class := { plain "[D" (some 0) with kind := .array 9 .double, interfaces := #[3, 4], accessFlags := 1041 }
def k11 : Class := { plain "[[I" (some 0) with kind := .array 8 (.array .int), interfaces := #[3, 4], accessFlags := 1041 }
def classes : Array Class := #[k0, k1, k2, k3, k4, k5, k6, k7, k8, k9, k10, k11]
def interned : List (Array UInt16 × Addr) := []
def slotsUsed : Nat := 0
def theMethod : MethodId := ⟨1, 1⟩
def args0 : Array Value := #[.int 3, .int 2, .int 5, .int 2, .int 3]
def aboutOver (below : List Frame) : State where
  vm := { classes := classes, interned := interned.toArray }
  heap := heap
  slotsUsed := slotsUsed
  threads := #[{ frames := .invoking theMethod args0 :: below }]
def below0 : List Frame := [.native { method := ⟨0, 0⟩, args := #[] }]
def about1 : State := aboutOver below0
def p0 : Program := .bare "" "" ""
def e0 : Env := launch0.env 0 0 0
theorem w_frames : about1.frames = Frame.invoking theMethod args0 :: below0 := rfl
set_option maxRecDepth 65536 in
theorem w_args : argsFit about1.vm theMethod args0 = true := by decide +kernel
set_option maxRecDepth 65536 in
theorem w_heap : heapFits about1 = true := by decide +kernel
set_option maxRecDepth 65536 in
theorem w_runnable : about1.curStatus? = some .runnable := by decide +kernel
set_option maxRecDepth 65536 in
theorem w_alone : about1.alone = true := by decide +kernel
set_option maxRecDepth 65536 in
theorem w_named : about1.methodNamed? x = some theMethod := by decide +kernel
set_option maxRecDepth 65536 in
theorem w_hears : about1.hears theMethod below0 = true := by decide +kernel
set_option maxRecDepth 65536 in
theorem w_ripe : about1.ripe theMethod args0 below0 = true := by decide +kernel
theorem w_running : about1.status = .running := rfl
set_option maxRecDepth 65536 in
theorem w_room : about1.hasRoom e0.platform room_1 = true :=
  launch0.hasRoom_least _ room_1 (by decide +kernel) (by decide +kernel) (by decide +kernel) (by decide +kernel) (by decide +kernel) (by decide +kernel)
theorem allAtoms_all (ts : List Jvm.Cond) (a : Array Jvm.Value) (st : Jvm.State) : (allAtoms ts).before a st = ts.all (fun c => c.before a st) := by
  induction ts with
  | nil => rfl
  | cons c t ih =>
    show (Jvm.Cond.and c (allAtoms t)).before a st = _
    rw [Jvm.Cond.before_and, ih, List.all_cons]
def words1 : List Jvm.Cond := Jvm.Cond.code x code maxLocals ret :: tables_1
/-- a 'code' word, met by the world's own term for the bytes: nothing is compared byte by byte -/
theorem code_word {y : MethodName} {bytes : ByteArray} {mx : Nat} {rt : Option FieldType} {a : Array Value} {s : State} {m : MethodId} {meth : Method} {c : Code} (h1 : s.methodNamed? y = some m) (h2 : s.vm.method? m = some meth) (h3 : meth.code = some c) (h4 : c.code = bytes)
    (h5 : (c.maxLocals == mx && c.exceptionTable.isEmpty && decide (c.maxStack ≤ mostOperands) && decide (meth.sig.returnType = rt) && !meth.locks && decide (parseMethodDescriptor y.desc = some meth.sig)) = true) : (Jvm.Cond.code y bytes mx rt).before a s = true := by
  simp only [Bool.and_eq_true, beq_iff_eq, Bool.not_eq_true', decide_eq_true_eq] at h5
  obtain ⟨⟨⟨⟨⟨g1, g2⟩, g3⟩, g4⟩, g5⟩, g6⟩ := h5
  simp [Cond.before, Cond.holds, Cond.value, h1, h2, h3, h4, g1, g2, g3, g4, g5, g6]
def isCode : Jvm.Cond → Bool
  | .code _ _ _ _ => true
  | _ => false
theorem all_split {L : List Jvm.Cond} {P : Jvm.Cond → Bool} (h1 : L.all (fun c => isCode c || P c) = true) (h2 : ∀ c ∈ L.filter isCode, P c = true) : L.all P = true := by
  refine List.all_eq_true.mpr fun c hc => ?_
  have h := List.all_eq_true.mp h1 c hc
  rcases Bool.eq_false_or_eq_true (isCode c) with hi | hi
  · exact h2 c (List.mem_filter.mpr ⟨hc, hi⟩)
  · simpa [hi] using h
set_option maxRecDepth 65536 in
theorem w_c0 : (Jvm.Cond.code x code maxLocals ret).before args0 about1 = true := code_word (m := ⟨1, 1⟩) (meth := k1m1) (c := k1c1) (by decide +kernel) rfl rfl rfl (by decide +kernel)
set_option maxRecDepth 65536 in
theorem w_c1 : (Jvm.Cond.code ({ cls := "com/example/layrd/layrd/layout/LayeredGraph", name := "<init>", desc := "(I[I[DI[I[I)V" } : Jvm.MethodName) prog_77_method_1_code (7 : Nat) (Option.none : Option Jvm.ClassFile.FieldType)).before args0 about1 = true := code_word (m := ⟨2, 0⟩) (meth := k2m0) (c := k2c0) (by decide +kernel) rfl rfl rfl (by decide +kernel)
set_option maxRecDepth 65536 in
theorem w_c2 : (Jvm.Cond.code ({ cls := "java/lang/Object", name := "<init>", desc := "()V" } : Jvm.MethodName) object_method_1_code (1 : Nat) (Option.none : Option Jvm.ClassFile.FieldType)).before args0 about1 = true := code_word (m := ⟨0, 0⟩) (meth := k0m0) (c := k0c0) (by decide +kernel) rfl rfl rfl (by decide +kernel)
set_option maxRecDepth 65536 in
theorem w_c3 : (Jvm.Cond.code ({ cls := "com/example/layrd/layrd/layout/LayeredGraph", name := "itemOrder", desc := "()[[I" } : Jvm.MethodName) prog_77_method_11_code (6 : Nat) (Option.some (Jvm.ClassFile.FieldType.array (Jvm.ClassFile.FieldType.array Jvm.ClassFile.FieldType.int)))).before args0 about1 = true := code_word (m := ⟨2, 1⟩) (meth := k2m1) (c := k2c1) (by decide +kernel) rfl rfl rfl (by decide +kernel)
set_option maxRecDepth 65536 in
theorem w_c4 : (Jvm.Cond.code ({ cls := "com/example/layrd/layrd/layout/LayeredGraphItemOrderPinLaw", name := "rowOk", desc := "([I[II)Z" } : Jvm.MethodName) method_4_code (4 : Nat) (Option.some Jvm.ClassFile.FieldType.boolean)).before args0 about1 = true := code_word (m := ⟨1, 3⟩) (meth := k1m3) (c := k1c3) (by decide +kernel) rfl rfl rfl (by decide +kernel)
set_option maxRecDepth 65536 in
theorem w_c5 : (Jvm.Cond.code ({ cls := "com/example/layrd/layrd/layout/LayeredGraphItemOrderPinLaw", name := "kth", desc := "([III)I" } : Jvm.MethodName) method_3_code (4 : Nat) (Option.some Jvm.ClassFile.FieldType.int)).before args0 about1 = true := code_word (m := ⟨1, 2⟩) (meth := k1m2) (c := k1c2) (by decide +kernel) rfl rfl rfl (by decide +kernel)
def codes1 : List Jvm.Cond := [Jvm.Cond.code x code maxLocals ret, Jvm.Cond.code ({ cls := "com/example/layrd/layrd/layout/LayeredGraph", name := "<init>", desc := "(I[I[DI[I[I)V" } : Jvm.MethodName) prog_77_method_1_code (7 : Nat) (Option.none : Option Jvm.ClassFile.FieldType), Jvm.Cond.code ({ cls := "java/lang/Object", name := "<init>", desc := "()V" } : Jvm.MethodName) object_method_1_code (1 : Nat) (Option.none : Option Jvm.ClassFile.FieldType), Jvm.Cond.code ({ cls := "com/example/layrd/layrd/layout/LayeredGraph", name := "itemOrder", desc := "()[[I" } : Jvm.MethodName) prog_77_method_11_code (6 : Nat) (Option.some (Jvm.ClassFile.FieldType.array (Jvm.ClassFile.FieldType.array Jvm.ClassFile.FieldType.int))), Jvm.Cond.code ({ cls := "com/example/layrd/layrd/layout/LayeredGraphItemOrderPinLaw", name := "rowOk", desc := "([I[II)Z" } : Jvm.MethodName) method_4_code (4 : Nat) (Option.some Jvm.ClassFile.FieldType.boolean), Jvm.Cond.code ({ cls := "com/example/layrd/layrd/layout/LayeredGraphItemOrderPinLaw", name := "kth", desc := "([III)I" } : Jvm.MethodName) method_3_code (4 : Nat) (Option.some Jvm.ClassFile.FieldType.int)]
set_option maxRecDepth 65536 in
theorem codes_eq : words1.filter isCode = codes1 := rfl
theorem w_codes : ∀ c ∈ words1.filter isCode, c.before args0 about1 = true := by
  rw [codes_eq]
  intro c hc
  simp only [codes1, List.mem_cons, List.not_mem_nil, or_false] at hc
  rcases hc with rfl | rfl | rfl | rfl | rfl | rfl
  · exact w_c0
  · exact w_c1
  · exact w_c2
  · exact w_c3
  · exact w_c4
  · exact w_c5
set_option maxRecDepth 65536 in
theorem w_t1 : (words1.take 24).all (fun c => isCode c || c.before args0 about1) = true := by decide +kernel
set_option maxRecDepth 65536 in
theorem w_t2 : (words1.drop 24).all (fun c => isCode c || c.before args0 about1) = true := by decide +kernel
theorem w_tables : (allAtoms (Jvm.Cond.code x code maxLocals ret :: tables_1)).before args0 about1 = true := by
  rw [allAtoms_all]
  show words1.all (fun c => c.before args0 about1) = true
  refine all_split ?_ w_codes
  rw [← List.take_append_drop 24 words1, List.all_append, w_t1, w_t2]
  rfl
set_option maxRecDepth 65536 in
theorem w_case : (Jvm.Cond.and given_1 narrow_1).before args0 about1 = true := by decide +kernel
theorem w_applies : (headSpec (Jvm.Cond.code x code maxLocals ret :: tables_1) room_1).applies x e0.platform about1 = true :=
  (Spec.applies_iff w_frames).mpr ⟨w_running, w_runnable, w_alone, w_named, w_hears, w_ripe, w_room, w_tables⟩
theorem atStart : AtStart classFile x code maxLocals ret World_1 tables_1 room_1 Calls_1 rest_1 Pre_1 launch0 p0 e0 about1 theMethod args0 below0 :=
  ⟨lists_1, trivial, launch0.admits_env _ _ _, launch0.least_env, fairChoices_fair.cas, fairChoices_fair.clock, w_frames, w_args, w_heap, w_applies, trivial, trivial, w_case⟩
end start1
theorem witness_1 : WitnessClaimed_1 := ⟨start1.p0, start1.e0, start1.about1, start1.theMethod, start1.args0, start1.below0, start1.atStart⟩
end Jvm.Pilot.@@N@@

import JvmDerived
import JvmDerived.Pilot.@@N@@Statement
import JvmDerived.Pilot.@@N@@Code
set_option linter.unusedVariables false
set_option linter.unusedSimpArgs false
namespace Jvm.OwnGo
open Jvm Jvm.ClassFile Sem Op Lib Jvm.Free Jvm.Stand Jvm.LawKit Jvm.RoadKit Bundle
/-- from A the invocation ends and returns what Q takes; what was written lies at n0 or above -/
def Go (p : Program) (e : Env) (below : List Frame) (s : State) (n0 k n : Nat) (Q : Option Value → Heap → Prop) (A : State) : Prop :=
  ∃ t o, Steps p.tables e below A t ∧ t.status = .running ∧ Ended t below o ∧ ∃ v L, o = .returned v ∧ (Q v t.heap ∧ Fr n0 L) ∧ FrameEnd s o t L k n
/-- what stays as it is through a walk -/
def Ctx (p : Program) (s : State) (m : MethodId) (meth : Method) (c : Code) (Z : State) (a0 : Array Value) (ws : List Jvm.Cond) (own nm : String) (bytes : ByteArray) (ml : Nat) (ret : Option FieldType) : Prop :=
  p.tables.exec = Jvm.exec ∧ Z.Warmed39 s.vm ∧ (∀ d ∈ ws, d.before a0 Z = true) ∧ s.vm.findClass own = some m.cls ∧ meth.name = nm ∧ c.code = bytes ∧ c.maxLocals = ml ∧ meth.sig.returnType = ret ∧ meth.locks = false
/-- where a walk stands -/
def St (p : Program) (l : Launch) (e : Env) (R : Room) (s : State) (m : MethodId) (args : Array Value) (below : List Frame) (meth : Method) (c : Code) (n0 : Nat) (T : State) (h : Heap) (cells slots : Nat) : Prop :=
  T.heap = h ∧ n0 ≤ s.heap.size ∧ ∃ locs, Fr n0 locs ∧ Stand p l e R s m args below meth c T locs cells slots
/-- an array: its elements, one by one -/
def AR (Z : State) (h : Heap) (a : Addr) (ty : FieldType) (vs : List Value) : Prop := ∃ c : Cell, Arr Z h a c ty ∧ c.slots = vs.toArray ∧ vs.length < 2 ^ 31
/-- a method's contract at one heap -/
def Con (l : Launch) (Z : State) (y : MethodName) (bytes : ByteArray) (ml : Nat) (ret : Option FieldType) (wx : List Jvm.Cond) (rm : Room) (n0 : Nat) (as : Array Value) (h0 : Heap) (Q : Option Value → Heap → Prop) : Prop :=
  MetFree l y (head1 (Jvm.Cond.code y bytes ml ret :: wx) rm) (fun a U => a = as ∧ Z.Warmed39 U.vm ∧ U.heap = h0) (fun _ _ _ _ _ => True) (fun _ U o U' => ∃ v L, o = .returned v ∧ (Q v U'.heap ∧ Fr n0 L) ∧ FrameEnd U o U' L rm.cells rm.slots)
section One
variable {p : Program} {l : Launch} {e : Env} {R : Room} {s : State} {m : MethodId} {args : Array Value} {below : List Frame} {meth : Method} {c : Code} {T : State} {h h' : Heap} {n0 cells slots k n : Nat} {Q : Option Value → Heap → Prop} {A B Z : State} {a0 : Array Value} {ws : List Jvm.Cond} {own nm : String} {bytes : ByteArray} {ml pc : Nat} {ret : Option FieldType} {Ls : Array Slot} {rest stk : List Value}
def ius (x y : Int32) : Int32 := (x.toUInt32 >>> (y &&& 31).toUInt32).toInt32
def lus (x : Int64) (y : Int32) : Int64 := (x.toUInt64 >>> (y &&& 0x3f).toInt64.toUInt64).toInt64
theorem tm0 (x d : Int) : x.tmod d = 0 ↔ x % d = 0 := ⟨fun h => Int.emod_eq_zero_of_dvd (Int.dvd_of_tmod_eq_zero h), fun h => Int.tmod_eq_zero_of_dvd (Int.dvd_of_emod_eq_zero h)⟩
theorem irr (x : Int32) : ¬ x < x := by rw [Int32.lt_iff_toInt_lt]; omega
theorem wd {ws : List Jvm.Cond} (i : Nat) {d : Jvm.Cond} (q : ws[i]? = some d) : d ∈ ws := List.mem_of_getElem? q
theorem Ctx.hx (C : Ctx p s m meth c Z a0 ws own nm bytes ml ret) : p.tables.exec = Jvm.exec := C.1
theorem Ctx.hZ (C : Ctx p s m meth c Z a0 ws own nm bytes ml ret) : Z.Warmed39 s.vm := C.2.1
theorem Ctx.w (C : Ctx p s m meth c Z a0 ws own nm bytes ml ret) {d : Jvm.Cond} (q : d ∈ ws) : d.before a0 Z = true := C.2.2.1 d q
theorem Ctx.hown (C : Ctx p s m meth c Z a0 ws own nm bytes ml ret) : s.vm.findClass own = some m.cls := C.2.2.2.1
theorem Ctx.hnm (C : Ctx p s m meth c Z a0 ws own nm bytes ml ret) : meth.name = nm := C.2.2.2.2.1
theorem Ctx.hby (C : Ctx p s m meth c Z a0 ws own nm bytes ml ret) : c.code = bytes := C.2.2.2.2.2.1
theorem Ctx.hml (C : Ctx p s m meth c Z a0 ws own nm bytes ml ret) : c.maxLocals = ml := C.2.2.2.2.2.2.1
theorem Ctx.hret (C : Ctx p s m meth c Z a0 ws own nm bytes ml ret) : meth.sig.returnType = ret := C.2.2.2.2.2.2.2.1
theorem Ctx.hlk (C : Ctx p s m meth c Z a0 ws own nm bytes ml ret) : meth.locks = false := C.2.2.2.2.2.2.2.2
theorem St.here (X : St p l e R s m args below meth c n0 T h cells slots) : At T m c below := by obtain ⟨-, -, _, -, X⟩ := X; exact X.here
theorem St.size (X : St p l e R s m args below meth c n0 T h cells slots) : n0 ≤ h.size := by
  obtain ⟨rfl, hz, _, -, X⟩ := X
  exact Nat.le_trans hz X.same.2.1
theorem St.mono (X : St p l e R s m args below meth c n0 T h cells slots) {cells' slots' : Nat} (h1 : cells ≤ cells') (h2 : slots ≤ slots') : St p l e R s m args below meth c n0 T h cells' slots' := by
  obtain ⟨e0, hz, locs, N, X⟩ := X
  exact ⟨e0, hz, locs, N, { X with same := X.same.mono h1 h2 }⟩
theorem Go.st (q : ∀ t, Steps p.tables e below B t → Steps p.tables e below A t) (g : Go p e below s n0 k n Q B) : Go p e below s n0 k n Q A := by
  obtain ⟨t, o, h1, r⟩ := g
  exact ⟨t, o, q t h1, r⟩
theorem Go.tr (q : Steps p.tables e below A B) (g : Go p e below s n0 k n Q B) : Go p e below s n0 k n Q A := Go.st (fun _ r => q.trans r) g
theorem Con.mk {y : MethodName} {wx : List Jvm.Cond} {rm : Room} {as : Array Value} {h0 : Heap} (hp : plainFor y = true) (hw : ∀ d ∈ ws, d.before a0 Z = true) (hz : n0 ≤ h0.size)
    (H : ∀ (p : Program) (e : Env) (s : State) (m : MethodId) (below : List Frame) (meth : Method) (c : Code) (T : State), Ctx p s m meth c Z a0 ws y.cls y.name bytes ml ret → St p l e rm s m as below meth c n0 T h0 0 0 → Go p e below s n0 rm.cells rm.slots Q (T.setTop (entryFrame m as ml))) : Con l Z y bytes ml ret wx rm n0 as h0 Q := by
  refine MetFree.of_bodySF hp hisR ?_
  intro p e s m args below meth c s₁ Bd hml hP hK
  obtain ⟨rfl, hZ, hh⟩ := hP
  have hE : s₁.heap = h0 := by rw [← hh, Bd.state]; rfl
  exact H p e s m below meth c s₁ ⟨Bd.exec, hZ, hw, findClass_of_methodNamed Bd.named, (name_of_methodNamed Bd.named Bd.method).1, Bd.bytes, hml, Bd.returns, BodyLoose.notSynchronized Bd⟩ ⟨hE, by rw [hh]; exact hz, [], Fr.nil n0, Stand.of_body Bd⟩
theorem Go.retAny (C : Ctx p s m meth c Z a0 ws own nm bytes ml ret) (X : St p l e R s m args below meth c n0 T h cells slots) {w : Value} {t : FieldType} {i : Instr} (hret : ret = some t) (hn : narrow t w = w)
    (hi : (i = .ireturn ∧ (t = .int ∨ t = .boolean ∨ t = .byte ∨ t = .char ∨ t = .short) ∧ ∃ z, w = .int z) ∨ (i = .lreturn ∧ t = .long ∧ ∃ z, w = .long z) ∨ (i = .dreturn ∧ t = .double ∧ ∃ z, w = .double z) ∨ (i = .freturn ∧ t = .float ∧ ∃ z, w = .float z) ∨ (i = .areturn ∧ t.isReference = true ∧ w.isRef = true))
    (hd : decode bytes pc = .ok (i, 1)) (hQ : Q (some w) h) (hk : cells ≤ k) (hs : slots ≤ n) : Go p e below s n0 k n Q (T.setTop (mkF m pc Ls (w :: rest))) := by
  obtain ⟨rfl, hz, locs, N, X⟩ := X
  obtain ⟨fs, hr, hrun, hended, hW, hsame⟩ := X.leave (v := some w) (fun q => by rw [C.hret, hret] at q; cases q) C.hlk
  exact ⟨_, _, retOut X C.hx (C.hret.trans hret) hn hi (hb C.hby hd) hr, hrun, hended, _, _, rfl, ⟨hQ, N⟩, ⟨_, rfl⟩, hW, hsame.mono hk hs⟩
theorem Go.retI (C : Ctx p s m meth c Z a0 ws own nm bytes ml (some .int)) (X : St p l e R s m args below meth c n0 T h cells slots) {z : Int32} (hd : decode bytes pc = .ok (.ireturn, 1)) (hQ : Q (some (.int z)) h) (hk : cells ≤ k) (hs : slots ≤ n) : Go p e below s n0 k n Q (T.setTop (mkF m pc Ls (.int z :: rest))) :=
  Go.retAny C X rfl rfl (Or.inl ⟨rfl, Or.inl rfl, _, rfl⟩) hd hQ hk hs
theorem Go.retZ (C : Ctx p s m meth c Z a0 ws own nm bytes ml (some .boolean)) (X : St p l e R s m args below meth c n0 T h cells slots) {z : Int32} (hz : z = 0 ∨ z = 1) (hd : decode bytes pc = .ok (.ireturn, 1)) (hQ : Q (some (.int z)) h) (hk : cells ≤ k) (hs : slots ≤ n) : Go p e below s n0 k n Q (T.setTop (mkF m pc Ls (.int z :: rest))) :=
  Go.retAny C X rfl (by rcases hz with rfl | rfl <;> rfl) (Or.inl ⟨rfl, Or.inr (Or.inl rfl), _, rfl⟩) hd hQ hk hs
theorem Go.retJ (C : Ctx p s m meth c Z a0 ws own nm bytes ml (some .long)) (X : St p l e R s m args below meth c n0 T h cells slots) {z : Int64} (hd : decode bytes pc = .ok (.lreturn, 1)) (hQ : Q (some (.long z)) h) (hk : cells ≤ k) (hs : slots ≤ n) : Go p e below s n0 k n Q (T.setTop (mkF m pc Ls (.long z :: rest))) :=
  Go.retAny C X rfl rfl (Or.inr (Or.inl ⟨rfl, rfl, _, rfl⟩)) hd hQ hk hs
theorem Go.retA {t : FieldType} (C : Ctx p s m meth c Z a0 ws own nm bytes ml (some t)) (X : St p l e R s m args below meth c n0 T h cells slots) {v : Value} (ht : t.isReference = true) (hv : v.isRef = true) (hd : decode bytes pc = .ok (.areturn, 1)) (hQ : Q (some v) h) (hk : cells ≤ k) (hs : slots ≤ n) : Go p e below s n0 k n Q (T.setTop (mkF m pc Ls (v :: rest))) :=
  Go.retAny C X rfl (by cases t <;> cases v <;> first | rfl | (simp [FieldType.isReference] at ht; done) | (simp [Value.isRef] at hv; done)) (Or.inr (Or.inr (Or.inr (Or.inr ⟨rfl, ht, hv⟩)))) hd hQ hk hs
theorem Go.retV (C : Ctx p s m meth c Z a0 ws own nm bytes ml none) (X : St p l e R s m args below meth c n0 T h cells slots) (hd : decode bytes pc = .ok (.return_, 1)) (hQ : Q none h) (hk : cells ≤ k) (hs : slots ≤ n) : Go p e below s n0 k n Q (T.setTop (mkF m pc Ls [])) := by
  obtain ⟨rfl, hz, locs, N, X⟩ := X
  obtain ⟨fs, hr, hrun, hended, hW, hsame⟩ := X.leave (v := none) (fun _ => rfl) C.hlk
  exact ⟨_, _, X.returnOut C.hx C.hret (hb C.hby hd) hr, hrun, hended, _, _, rfl, ⟨hQ, N⟩, ⟨_, rfl⟩, hW, hsame.mono hk hs⟩
theorem Go.if_eq (C : Ctx p s m meth c Z a0 ws own nm bytes ml ret) (X : St p l e R s m args below meth c n0 T h cells slots) {x : Int32} {o : Int} {pc' : Nat} (hd : decode bytes pc = .ok (.ifCond .eq o, 3)) (ho : 0 ≤ (pc : Int) + o) (hp : ((pc : Int) + o).toNat = pc') (Y : x = 0 → Go p e below s n0 k n Q (T.setTop (mkF m pc' Ls rest))) (N : ¬ x = 0 → Go p e below s n0 k n Q (T.setTop (mkF m (pc + 3) Ls rest))) : Go p e below s n0 k n Q (T.setTop (mkF m pc Ls (.int x :: rest))) := by
  by_cases q : x = 0
  · exact Go.st (fun _ => XS.ifYes X.here C.hx rfl rfl (hb C.hby hd) rfl (by simpa [ifCond.holds] using q) ho hp) (Y q)
  · exact Go.st (fun _ => XS.ifNo X.here C.hx rfl (hb C.hby hd) rfl (by simpa [ifCond.holds] using q) ) (N q)
theorem Go.icmp_eq (C : Ctx p s m meth c Z a0 ws own nm bytes ml ret) (X : St p l e R s m args below meth c n0 T h cells slots) {x y : Int32} {o : Int} {pc' : Nat} (hd : decode bytes pc = .ok (.if_icmp .eq o, 3)) (ho : 0 ≤ (pc : Int) + o) (hp : ((pc : Int) + o).toNat = pc') (Y : x = y → Go p e below s n0 k n Q (T.setTop (mkF m pc' Ls rest))) (N : ¬ x = y → Go p e below s n0 k n Q (T.setTop (mkF m (pc + 3) Ls rest))) : Go p e below s n0 k n Q (T.setTop (mkF m pc Ls (.int y :: .int x :: rest))) := by
  by_cases q : x = y
  · exact Go.st (fun _ => XS.icmpYes X.here C.hx rfl rfl (hb C.hby hd) rfl (by simpa [if_icmp.holds] using q) ho hp) (Y q)
  · exact Go.st (fun _ => XS.icmpNo X.here C.hx rfl (hb C.hby hd) rfl (by simpa [if_icmp.holds] using q) ) (N q)
theorem Go.if_ne (C : Ctx p s m meth c Z a0 ws own nm bytes ml ret) (X : St p l e R s m args below meth c n0 T h cells slots) {x : Int32} {o : Int} {pc' : Nat} (hd : decode bytes pc = .ok (.ifCond .ne o, 3)) (ho : 0 ≤ (pc : Int) + o) (hp : ((pc : Int) + o).toNat = pc') (Y : ¬ x = 0 → Go p e below s n0 k n Q (T.setTop (mkF m pc' Ls rest))) (N : x = 0 → Go p e below s n0 k n Q (T.setTop (mkF m (pc + 3) Ls rest))) : Go p e below s n0 k n Q (T.setTop (mkF m pc Ls (.int x :: rest))) := by
  by_cases q : x = 0
  · exact Go.st (fun _ => XS.ifNo X.here C.hx rfl (hb C.hby hd) rfl (by simpa [ifCond.holds] using q) ) (N q)
  · exact Go.st (fun _ => XS.ifYes X.here C.hx rfl rfl (hb C.hby hd) rfl (by simpa [ifCond.holds] using q) ho hp) (Y q)
theorem Go.icmp_ne (C : Ctx p s m meth c Z a0 ws own nm bytes ml ret) (X : St p l e R s m args below meth c n0 T h cells slots) {x y : Int32} {o : Int} {pc' : Nat} (hd : decode bytes pc = .ok (.if_icmp .ne o, 3)) (ho : 0 ≤ (pc : Int) + o) (hp : ((pc : Int) + o).toNat = pc') (Y : ¬ x = y → Go p e below s n0 k n Q (T.setTop (mkF m pc' Ls rest))) (N : x = y → Go p e below s n0 k n Q (T.setTop (mkF m (pc + 3) Ls rest))) : Go p e below s n0 k n Q (T.setTop (mkF m pc Ls (.int y :: .int x :: rest))) := by
  by_cases q : x = y
  · exact Go.st (fun _ => XS.icmpNo X.here C.hx rfl (hb C.hby hd) rfl (by simpa [if_icmp.holds] using q) ) (N q)
  · exact Go.st (fun _ => XS.icmpYes X.here C.hx rfl rfl (hb C.hby hd) rfl (by simpa [if_icmp.holds] using q) ho hp) (Y q)
theorem Go.if_lt (C : Ctx p s m meth c Z a0 ws own nm bytes ml ret) (X : St p l e R s m args below meth c n0 T h cells slots) {x : Int32} {o : Int} {pc' : Nat} (hd : decode bytes pc = .ok (.ifCond .lt o, 3)) (ho : 0 ≤ (pc : Int) + o) (hp : ((pc : Int) + o).toNat = pc') (Y : x < 0 → Go p e below s n0 k n Q (T.setTop (mkF m pc' Ls rest))) (N : ¬ x < 0 → Go p e below s n0 k n Q (T.setTop (mkF m (pc + 3) Ls rest))) : Go p e below s n0 k n Q (T.setTop (mkF m pc Ls (.int x :: rest))) := by
  by_cases q : x < 0
  · exact Go.st (fun _ => XS.ifYes X.here C.hx rfl rfl (hb C.hby hd) rfl (by simpa [ifCond.holds] using q) ho hp) (Y q)
  · exact Go.st (fun _ => XS.ifNo X.here C.hx rfl (hb C.hby hd) rfl (by simpa [ifCond.holds] using q) ) (N q)
theorem Go.icmp_lt (C : Ctx p s m meth c Z a0 ws own nm bytes ml ret) (X : St p l e R s m args below meth c n0 T h cells slots) {x y : Int32} {o : Int} {pc' : Nat} (hd : decode bytes pc = .ok (.if_icmp .lt o, 3)) (ho : 0 ≤ (pc : Int) + o) (hp : ((pc : Int) + o).toNat = pc') (Y : x < y → Go p e below s n0 k n Q (T.setTop (mkF m pc' Ls rest))) (N : ¬ x < y → Go p e below s n0 k n Q (T.setTop (mkF m (pc + 3) Ls rest))) : Go p e below s n0 k n Q (T.setTop (mkF m pc Ls (.int y :: .int x :: rest))) := by
  by_cases q : x < y
  · exact Go.st (fun _ => XS.icmpYes X.here C.hx rfl rfl (hb C.hby hd) rfl (by simpa [if_icmp.holds] using q) ho hp) (Y q)
  · exact Go.st (fun _ => XS.icmpNo X.here C.hx rfl (hb C.hby hd) rfl (by simpa [if_icmp.holds] using q) ) (N q)
theorem Go.if_ge (C : Ctx p s m meth c Z a0 ws own nm bytes ml ret) (X : St p l e R s m args below meth c n0 T h cells slots) {x : Int32} {o : Int} {pc' : Nat} (hd : decode bytes pc = .ok (.ifCond .ge o, 3)) (ho : 0 ≤ (pc : Int) + o) (hp : ((pc : Int) + o).toNat = pc') (Y : ¬ x < 0 → Go p e below s n0 k n Q (T.setTop (mkF m pc' Ls rest))) (N : x < 0 → Go p e below s n0 k n Q (T.setTop (mkF m (pc + 3) Ls rest))) : Go p e below s n0 k n Q (T.setTop (mkF m pc Ls (.int x :: rest))) := by
  by_cases q : x < 0
  · exact Go.st (fun _ => XS.ifNo X.here C.hx rfl (hb C.hby hd) rfl (by simpa [ifCond.holds, Int32.not_lt] using q) ) (N q)
  · exact Go.st (fun _ => XS.ifYes X.here C.hx rfl rfl (hb C.hby hd) rfl (by simpa [ifCond.holds, Int32.not_lt] using q) ho hp) (Y q)
theorem Go.icmp_ge (C : Ctx p s m meth c Z a0 ws own nm bytes ml ret) (X : St p l e R s m args below meth c n0 T h cells slots) {x y : Int32} {o : Int} {pc' : Nat} (hd : decode bytes pc = .ok (.if_icmp .ge o, 3)) (ho : 0 ≤ (pc : Int) + o) (hp : ((pc : Int) + o).toNat = pc') (Y : ¬ x < y → Go p e below s n0 k n Q (T.setTop (mkF m pc' Ls rest))) (N : x < y → Go p e below s n0 k n Q (T.setTop (mkF m (pc + 3) Ls rest))) : Go p e below s n0 k n Q (T.setTop (mkF m pc Ls (.int y :: .int x :: rest))) := by
  by_cases q : x < y
  · exact Go.st (fun _ => XS.icmpNo X.here C.hx rfl (hb C.hby hd) rfl (by simpa [if_icmp.holds, Int32.not_lt] using q) ) (N q)
  · exact Go.st (fun _ => XS.icmpYes X.here C.hx rfl rfl (hb C.hby hd) rfl (by simpa [if_icmp.holds, Int32.not_lt] using q) ho hp) (Y q)
theorem Go.if_gt (C : Ctx p s m meth c Z a0 ws own nm bytes ml ret) (X : St p l e R s m args below meth c n0 T h cells slots) {x : Int32} {o : Int} {pc' : Nat} (hd : decode bytes pc = .ok (.ifCond .gt o, 3)) (ho : 0 ≤ (pc : Int) + o) (hp : ((pc : Int) + o).toNat = pc') (Y : 0 < x → Go p e below s n0 k n Q (T.setTop (mkF m pc' Ls rest))) (N : ¬ 0 < x → Go p e below s n0 k n Q (T.setTop (mkF m (pc + 3) Ls rest))) : Go p e below s n0 k n Q (T.setTop (mkF m pc Ls (.int x :: rest))) := by
  by_cases q : 0 < x
  · exact Go.st (fun _ => XS.ifYes X.here C.hx rfl rfl (hb C.hby hd) rfl (by simpa [ifCond.holds] using q) ho hp) (Y q)
  · exact Go.st (fun _ => XS.ifNo X.here C.hx rfl (hb C.hby hd) rfl (by simpa [ifCond.holds] using q) ) (N q)
theorem Go.icmp_gt (C : Ctx p s m meth c Z a0 ws own nm bytes ml ret) (X : St p l e R s m args below meth c n0 T h cells slots) {x y : Int32} {o : Int} {pc' : Nat} (hd : decode bytes pc = .ok (.if_icmp .gt o, 3)) (ho : 0 ≤ (pc : Int) + o) (hp : ((pc : Int) + o).toNat = pc') (Y : y < x → Go p e below s n0 k n Q (T.setTop (mkF m pc' Ls rest))) (N : ¬ y < x → Go p e below s n0 k n Q (T.setTop (mkF m (pc + 3) Ls rest))) : Go p e below s n0 k n Q (T.setTop (mkF m pc Ls (.int y :: .int x :: rest))) := by
  by_cases q : y < x
  · exact Go.st (fun _ => XS.icmpYes X.here C.hx rfl rfl (hb C.hby hd) rfl (by simpa [if_icmp.holds] using q) ho hp) (Y q)
  · exact Go.st (fun _ => XS.icmpNo X.here C.hx rfl (hb C.hby hd) rfl (by simpa [if_icmp.holds] using q) ) (N q)
theorem Go.if_le (C : Ctx p s m meth c Z a0 ws own nm bytes ml ret) (X : St p l e R s m args below meth c n0 T h cells slots) {x : Int32} {o : Int} {pc' : Nat} (hd : decode bytes pc = .ok (.ifCond .le o, 3)) (ho : 0 ≤ (pc : Int) + o) (hp : ((pc : Int) + o).toNat = pc') (Y : ¬ 0 < x → Go p e below s n0 k n Q (T.setTop (mkF m pc' Ls rest))) (N : 0 < x → Go p e below s n0 k n Q (T.setTop (mkF m (pc + 3) Ls rest))) : Go p e below s n0 k n Q (T.setTop (mkF m pc Ls (.int x :: rest))) := by
  by_cases q : 0 < x
  · exact Go.st (fun _ => XS.ifNo X.here C.hx rfl (hb C.hby hd) rfl (by simpa [ifCond.holds, Int32.not_lt] using q) ) (N q)
  · exact Go.st (fun _ => XS.ifYes X.here C.hx rfl rfl (hb C.hby hd) rfl (by simpa [ifCond.holds, Int32.not_lt] using q) ho hp) (Y q)
theorem Go.icmp_le (C : Ctx p s m meth c Z a0 ws own nm bytes ml ret) (X : St p l e R s m args below meth c n0 T h cells slots) {x y : Int32} {o : Int} {pc' : Nat} (hd : decode bytes pc = .ok (.if_icmp .le o, 3)) (ho : 0 ≤ (pc : Int) + o) (hp : ((pc : Int) + o).toNat = pc') (Y : ¬ y < x → Go p e below s n0 k n Q (T.setTop (mkF m pc' Ls rest))) (N : y < x → Go p e below s n0 k n Q (T.setTop (mkF m (pc + 3) Ls rest))) : Go p e below s n0 k n Q (T.setTop (mkF m pc Ls (.int y :: .int x :: rest))) := by
  by_cases q : y < x
  · exact Go.st (fun _ => XS.icmpNo X.here C.hx rfl (hb C.hby hd) rfl (by simpa [if_icmp.holds, Int32.not_lt] using q) ) (N q)
  · exact Go.st (fun _ => XS.icmpYes X.here C.hx rfl rfl (hb C.hby hd) rfl (by simpa [if_icmp.holds, Int32.not_lt] using q) ho hp) (Y q)
theorem Go.lif_eq (C : Ctx p s m meth c Z a0 ws own nm bytes ml ret) (X : St p l e R s m args below meth c n0 T h cells slots) {x y : Int64} {o : Int} {pc' : Nat} (hd : decode bytes pc = .ok (.ifCond .eq o, 3)) (ho : 0 ≤ (pc : Int) + o) (hp : ((pc : Int) + o).toNat = pc') (Y : x = y → Go p e below s n0 k n Q (T.setTop (mkF m pc' Ls rest))) (N : ¬ x = y → Go p e below s n0 k n Q (T.setTop (mkF m (pc + 3) Ls rest))) : Go p e below s n0 k n Q (T.setTop (mkF m pc Ls (.int (lcmpW x y) :: rest))) := by
  have q := lc_eq x y
  rw [← lcW] at q
  exact Go.if_eq C X hd ho hp (fun r => Y (q.mp r)) (fun r => N (fun u => r (q.mpr u)))
theorem Go.lif_ne (C : Ctx p s m meth c Z a0 ws own nm bytes ml ret) (X : St p l e R s m args below meth c n0 T h cells slots) {x y : Int64} {o : Int} {pc' : Nat} (hd : decode bytes pc = .ok (.ifCond .ne o, 3)) (ho : 0 ≤ (pc : Int) + o) (hp : ((pc : Int) + o).toNat = pc') (Y : ¬ x = y → Go p e below s n0 k n Q (T.setTop (mkF m pc' Ls rest))) (N : x = y → Go p e below s n0 k n Q (T.setTop (mkF m (pc + 3) Ls rest))) : Go p e below s n0 k n Q (T.setTop (mkF m pc Ls (.int (lcmpW x y) :: rest))) := by
  have q := lc_eq x y
  rw [← lcW] at q
  exact Go.if_ne C X hd ho hp (fun r => Y (fun u => r (q.mpr u))) (fun r => N (q.mp r))
theorem Go.lif_lt (C : Ctx p s m meth c Z a0 ws own nm bytes ml ret) (X : St p l e R s m args below meth c n0 T h cells slots) {x y : Int64} {o : Int} {pc' : Nat} (hd : decode bytes pc = .ok (.ifCond .lt o, 3)) (ho : 0 ≤ (pc : Int) + o) (hp : ((pc : Int) + o).toNat = pc') (Y : x < y → Go p e below s n0 k n Q (T.setTop (mkF m pc' Ls rest))) (N : ¬ x < y → Go p e below s n0 k n Q (T.setTop (mkF m (pc + 3) Ls rest))) : Go p e below s n0 k n Q (T.setTop (mkF m pc Ls (.int (lcmpW x y) :: rest))) := by
  have q := lc_lt x y
  rw [← lcW] at q
  exact Go.if_lt C X hd ho hp (fun r => Y (q.mp r)) (fun r => N (fun u => r (q.mpr u)))
theorem Go.lif_ge (C : Ctx p s m meth c Z a0 ws own nm bytes ml ret) (X : St p l e R s m args below meth c n0 T h cells slots) {x y : Int64} {o : Int} {pc' : Nat} (hd : decode bytes pc = .ok (.ifCond .ge o, 3)) (ho : 0 ≤ (pc : Int) + o) (hp : ((pc : Int) + o).toNat = pc') (Y : ¬ x < y → Go p e below s n0 k n Q (T.setTop (mkF m pc' Ls rest))) (N : x < y → Go p e below s n0 k n Q (T.setTop (mkF m (pc + 3) Ls rest))) : Go p e below s n0 k n Q (T.setTop (mkF m pc Ls (.int (lcmpW x y) :: rest))) := by
  have q := lc_lt x y
  rw [← lcW] at q
  exact Go.if_ge C X hd ho hp (fun r => Y (fun u => r (q.mpr u))) (fun r => N (q.mp r))
theorem Go.lif_gt (C : Ctx p s m meth c Z a0 ws own nm bytes ml ret) (X : St p l e R s m args below meth c n0 T h cells slots) {x y : Int64} {o : Int} {pc' : Nat} (hd : decode bytes pc = .ok (.ifCond .gt o, 3)) (ho : 0 ≤ (pc : Int) + o) (hp : ((pc : Int) + o).toNat = pc') (Y : y < x → Go p e below s n0 k n Q (T.setTop (mkF m pc' Ls rest))) (N : ¬ y < x → Go p e below s n0 k n Q (T.setTop (mkF m (pc + 3) Ls rest))) : Go p e below s n0 k n Q (T.setTop (mkF m pc Ls (.int (lcmpW x y) :: rest))) := by
  have q := lc_gt x y
  rw [← lcW] at q
  exact Go.if_gt C X hd ho hp (fun r => Y (q.mp r)) (fun r => N (fun u => r (q.mpr u)))
theorem Go.lif_le (C : Ctx p s m meth c Z a0 ws own nm bytes ml ret) (X : St p l e R s m args below meth c n0 T h cells slots) {x y : Int64} {o : Int} {pc' : Nat} (hd : decode bytes pc = .ok (.ifCond .le o, 3)) (ho : 0 ≤ (pc : Int) + o) (hp : ((pc : Int) + o).toNat = pc') (Y : ¬ y < x → Go p e below s n0 k n Q (T.setTop (mkF m pc' Ls rest))) (N : y < x → Go p e below s n0 k n Q (T.setTop (mkF m (pc + 3) Ls rest))) : Go p e below s n0 k n Q (T.setTop (mkF m pc Ls (.int (lcmpW x y) :: rest))) := by
  have q := lc_gt x y
  rw [← lcW] at q
  exact Go.if_le C X hd ho hp (fun r => Y (fun u => r (q.mpr u))) (fun r => N (q.mp r))
theorem Go.acmp_eq (C : Ctx p s m meth c Z a0 ws own nm bytes ml ret) (X : St p l e R s m args below meth c n0 T h cells slots) {x y : Value} (h1 : x.isRef = true) (h2 : y.isRef = true) {o : Int} {pc' : Nat} (hd : decode bytes pc = .ok (.if_acmp .eq o, 3)) (ho : 0 ≤ (pc : Int) + o) (hp : ((pc : Int) + o).toNat = pc') (Y : x = y → Go p e below s n0 k n Q (T.setTop (mkF m pc' Ls rest))) (N : ¬ x = y → Go p e below s n0 k n Q (T.setTop (mkF m (pc + 3) Ls rest))) : Go p e below s n0 k n Q (T.setTop (mkF m pc Ls (y :: x :: rest))) := by
  obtain ⟨-, -, _, -, X⟩ := X
  by_cases q : x = y
  · exact Go.st (fun _ => Jvm.RoadKit.acmp (g := mkF m pc Ls (y :: x :: rest)) X C.hx rfl h1 h2 (same := true) rfl (hb C.hby hd) rfl (decide_eq_true q) ho (by rw [← hp]; rfl)) (Y q)
  · exact Go.st (fun _ => Jvm.RoadKit.acmp (g := mkF m pc Ls (y :: x :: rest)) X C.hx rfl h1 h2 (same := false) rfl (hb C.hby hd) rfl (decide_eq_false q) ho (by rfl)) (N q)
theorem Go.acmp_ne (C : Ctx p s m meth c Z a0 ws own nm bytes ml ret) (X : St p l e R s m args below meth c n0 T h cells slots) {x y : Value} (h1 : x.isRef = true) (h2 : y.isRef = true) {o : Int} {pc' : Nat} (hd : decode bytes pc = .ok (.if_acmp .ne o, 3)) (ho : 0 ≤ (pc : Int) + o) (hp : ((pc : Int) + o).toNat = pc') (Y : ¬ x = y → Go p e below s n0 k n Q (T.setTop (mkF m pc' Ls rest))) (N : x = y → Go p e below s n0 k n Q (T.setTop (mkF m (pc + 3) Ls rest))) : Go p e below s n0 k n Q (T.setTop (mkF m pc Ls (y :: x :: rest))) := by
  obtain ⟨-, -, _, -, X⟩ := X
  by_cases q : x = y
  · exact Go.st (fun _ => Jvm.RoadKit.acmp (g := mkF m pc Ls (y :: x :: rest)) X C.hx rfl h1 h2 (same := true) rfl (hb C.hby hd) rfl (decide_eq_true q) ho (by rfl)) (N q)
  · exact Go.st (fun _ => Jvm.RoadKit.acmp (g := mkF m pc Ls (y :: x :: rest)) X C.hx rfl h1 h2 (same := false) rfl (hb C.hby hd) rfl (decide_eq_false q) ho (by rw [← hp]; rfl)) (Y q)
theorem Go.getF (C : Ctx p s m meth c Z a0 ws own nm bytes ml ret) (X : St p l e R s m args below meth c n0 T h cells slots) {O n1 d : String} {i : Nat} {a : Addr} {v : Value} (w : Jvm.Cond.fieldLink own i O n1 d ∈ ws) (F : Fld Z h a O n1 d v) (hd : decode bytes pc = .ok (.getfield i, 3)) (K : ∀ T', St p l e R s m args below meth c n0 T' h cells slots → Go p e below s n0 k n Q (T'.setTop (mkF m (pc + 3) Ls (v :: rest)))) : Go p e below s n0 k n Q (T.setTop (mkF m pc Ls (.ref a :: rest))) := by
  obtain ⟨e0, hz, locs, N, X⟩ := X
  obtain ⟨T', X', e', st⟩ := Jvm.RoadKit.getF X C.hx C.hZ C.hown (host := "") (Or.inl (C.w w)) Via.refl e0 F (g := mkF m pc Ls (.ref a :: rest)) rfl rfl (hb C.hby hd)
  exact Go.st st (K T' ⟨e', hz, locs, N, X'⟩)
theorem Go.getS (C : Ctx p s m meth c Z a0 ws own nm bytes ml ret) (X : St p l e R s m args below meth c n0 T h cells slots) {O n1 d : String} {i : Nat} {v : Value} (w : Jvm.Cond.fieldLink own i O n1 d ∈ ws) (F : Sta Z h O n1 d v) (hd : decode bytes pc = .ok (.getstatic i, 3)) (K : ∀ T', St p l e R s m args below meth c n0 T' h cells slots → Go p e below s n0 k n Q (T'.setTop (mkF m (pc + 3) Ls (v :: stk)))) : Go p e below s n0 k n Q (T.setTop (mkF m pc Ls stk)) := by
  obtain ⟨e0, hz, locs, N, X⟩ := X
  obtain ⟨T', X', e', st⟩ := Jvm.RoadKit.getS2 X C.hx C.hZ C.hown (host := "") (Or.inl (C.w w)) Via.refl e0 F (g := mkF m pc Ls stk) rfl (hb C.hby hd)
  exact Go.st st (K T' ⟨e', hz, locs, N, X'⟩)
theorem Go.putF (C : Ctx p s m meth c Z a0 ws own nm bytes ml ret) (X : St p l e R s m args below meth c n0 T h cells slots) {O n1 d C1 : String} {i kk : Nat} {ty : FieldType} {a : Addr} {v old : Value} (w : Jvm.Cond.fieldLink own i O n1 d ∈ ws) (F : Fld Z h a O n1 d old) (E : Exa Z h a C1) (L : Jvm.Cond.lays C1 O n1 d ∈ ws ∨ (Jvm.Cond.laysFinal C1 O n1 d ∈ ws ∧ own = O ∧ nm = "<init>")) (wi : Jvm.Cond.instantiable C1 kk ∈ ws)
    (hty : parseFieldDescriptor d = some ty) (hn : narrow ty v = v) (hf : fits ty v = true) (ha : n0 ≤ a) (hd : decode bytes pc = .ok (.putfield i, 3)) (K : ∀ T' h', St p l e R s m args below meth c n0 T' h' cells slots → Wr h h' a (Jvm.RoadKit.slotOf Z O n1 d) v → Fld Z h' a O n1 d v → Go p e below s n0 k n Q (T'.setTop (mkF m (pc + 3) Ls rest))) : Go p e below s n0 k n Q (T.setTop (mkF m pc Ls (v :: .ref a :: rest))) := by
  obtain ⟨e0, hz, locs, N, X⟩ := X
  obtain ⟨T', h', X', e', W, st⟩ := Jvm.RoadKit.putF X C.hx C.hZ C.hown (host := "") (Or.inl (C.w w)) Via.refl e0 F E (L.imp (fun q => C.w q) (fun q => ⟨C.w q.1, q.2.1, C.hnm.trans q.2.2⟩)) (C.w wi) hty hn hf (g := mkF m pc Ls (v :: .ref a :: rest)) rfl rfl (hb C.hby hd)
  exact Go.st st (K T' h' ⟨e', hz, _, Fr.snoc X' N ha, X'⟩ W (F.same W))
theorem Go.newO (C : Ctx p s m meth c Z a0 ws own nm bytes ml ret) (X : St p l e R s m args below meth c n0 T h cells slots) {C1 : String} {i kk : Nat} (w : Jvm.Cond.classLink own i C1 ∈ ws) (wi : Jvm.Cond.instantiable C1 kk ∈ ws) (wz : Jvm.Cond.initialized C1 ∈ ws) (hd : decode bytes pc = .ok (.new i, 3)) (hc : cells + 1 ≤ R.cells) (hl : slots + kk ≤ R.slots)
    (K : ∀ T' h' b, h.size = b → n0 ≤ b → St p l e R s m args below meth c n0 T' h' (cells + 1) (slots + kk) → Ext h h' → Exa Z h' b C1 → (∀ {O n1 d : String} {ty : FieldType}, (Jvm.Cond.lays C1 O n1 d ∈ ws ∨ Jvm.Cond.laysFinal C1 O n1 d ∈ ws) → parseFieldDescriptor d = some ty → Fld Z h' b O n1 d (defaultValue ty)) → Go p e below s n0 k n Q (T'.setTop (mkF m (pc + 3) Ls (.ref b :: stk)))) : Go p e below s n0 k n Q (T.setTop (mkF m pc Ls stk)) := by
  have hs := X.size
  obtain ⟨e0, hz, locs, N, X⟩ := X
  obtain ⟨T', h', X', e', E, E1, D, -, st⟩ := Jvm.RoadKit.newO X C.hx C.hZ C.hown (C.w w) (C.w wi) (C.w wz) e0 (g := mkF m pc Ls stk) rfl (hb C.hby hd) hc hl
  exact Go.st st (K T' h' _ rfl hs ⟨e', hz, _, N, X'⟩ E E1 (fun q r => D (q.imp (fun q => C.w q) (fun q => C.w q)) r))
theorem AR.of {cA : ClassId} {ty : FieldType} {z : Int32} {a : Addr} (F : Arr Z h a (newA cA ty z) ty) (q : ¬ z < 0) : AR Z h a ty (List.replicate z.toNatClampNeg (defaultValue ty)) :=
  ⟨_, F, by simp [newA], by rw [List.length_replicate]; exact (back32 q).2⟩
theorem Go.newP (C : Ctx p s m meth c Z a0 ws own nm bytes ml ret) (X : St p l e R s m args below meth c n0 T h cells slots) {aty : ArrayType} {z : Int32} {cap : Nat} (w : Jvm.Cond.arrayClass (newarray.typeOf aty) ∈ ws) (hd : decode bytes pc = .ok (.newarray aty, 2)) (hn : ¬ z < 0) (hcap : z.toNatClampNeg ≤ cap) (hb8 : cap * 8 ≤ 536870912) (hc : cells + 1 ≤ R.cells) (hl : slots + cap ≤ R.slots)
    (K : ∀ T' h' b, h.size = b → n0 ≤ b → St p l e R s m args below meth c n0 T' h' (cells + 1) (slots + cap) → Ext h h' → AR Z h' b (newarray.typeOf aty) (List.replicate z.toNatClampNeg (defaultValue (newarray.typeOf aty))) → Go p e below s n0 k n Q (T'.setTop (mkF m (pc + 2) Ls (.ref b :: rest)))) : Go p e below s n0 k n Q (T.setTop (mkF m pc Ls (.int z :: rest))) := by
  have hs := X.size
  obtain ⟨e0, hz, locs, N, X⟩ := X
  obtain ⟨T', h', cA, X', e', E, F, st⟩ := Jvm.RoadKit.newP X C.hx C.hZ (C.w w) e0 (g := mkF m pc Ls (.int z :: rest)) rfl (hb C.hby hd) rfl hn hcap hb8 hc hl
  exact Go.st st (K T' h' _ rfl hs ⟨e', hz, _, N, X'⟩ E (AR.of F hn))
theorem AR.lt {a : Addr} {ty : FieldType} {vs : List Value} (F : AR Z h a ty vs) : a < h.size := by obtain ⟨c, A, -⟩ := F; exact A.lt
theorem AR.ext {a : Addr} {ty : FieldType} {vs : List Value} (F : AR Z h a ty vs) (E : Ext h h') : AR Z h' a ty vs := by obtain ⟨c, A, r⟩ := F; exact ⟨c, A.ext E, r⟩
theorem AR.other {a b : Addr} {ty : FieldType} {vs : List Value} {sl : Nat} {v : Value} (F : AR Z h b ty vs) (W : Wr h h' a sl v) (q : b ≠ a) : AR Z h' b ty vs := by obtain ⟨c, A, r⟩ := F; exact ⟨c, A.other W q, r⟩
theorem AR.keep {a : Addr} {ty : FieldType} {vs : List Value} {us : List Addr} (F : AR Z h a ty vs) (K : Keep h h' us) (q : a ∉ us) : AR Z h' a ty vs := by obtain ⟨c, A, r⟩ := F; exact ⟨c, ⟨K.2.1 a c A.1 q, A.2⟩, r⟩
theorem AR.same {a : Addr} {ty : FieldType} {vs : List Value} {i : Nat} {v : Value} (F : AR Z h a ty vs) (W : Wr h h' a i v) : AR Z h' a ty (vs.set i v) := by
  obtain ⟨c, A, r, q⟩ := F
  refine ⟨_, A.same W, ?_, by rw [List.length_set]; exact q⟩
  simp [Cell.setSlot, r]
theorem AR.in {a : Addr} {ty : FieldType} {vs : List Value} {j : Int32} {c : Cell} (r : c.slots = vs.toArray) (hj : ¬ j < 0) (hl : j.toNatClampNeg < vs.length) : ¬ (j < 0 ∨ c.slots.size ≤ j.toNatClampNeg) := by
  rw [r]; simp; exact ⟨Int32.not_lt.mp hj, hl⟩
theorem AR.ne {a b : Addr} {ty : FieldType} {vs : List Value} (F : AR Z h a ty vs) (g : h.size = b) : a ≠ b := by subst g; exact Nat.ne_of_lt F.lt
theorem ltOf {vs : List Value} {i : Nat} {v : Value} (q : vs[i]? = some v) : i < vs.length := (List.getElem?_eq_some_iff.mp q).1
theorem Go.iaload (C : Ctx p s m meth c Z a0 ws own nm bytes ml ret) (X : St p l e R s m args below meth c n0 T h cells slots) {a : Addr} {vs : List Value} {j : Int32} {x : Int32} (F : AR Z h a .int vs) (hj : ¬ j < 0) (hv : vs[j.toNatClampNeg]? = some (.int x)) (hd : decode bytes pc = .ok (.iaload, 1)) (K : Go p e below s n0 k n Q (T.setTop (mkF m (pc + 1) Ls (.int x :: rest)))) : Go p e below s n0 k n Q (T.setTop (mkF m pc Ls (.int j :: .ref a :: rest))) := by
  obtain ⟨e0, hz, locs, N, X⟩ := X
  obtain ⟨cl, A, r, -⟩ := F
  exact Go.st (X.iaload C.hx (j := j) (v := .int x) (by rw [e0]; exact A.1) (State.isArrayOf_alike C.hZ.alike A.2.1) A.2.2 (AR.in (a := a) (ty := .int) r hj (ltOf hv)) (by rw [r]; simpa using hv) (g := mkF m pc Ls (.int j :: .ref a :: rest)) rfl rfl (hb C.hby hd)) K
theorem Go.laload (C : Ctx p s m meth c Z a0 ws own nm bytes ml ret) (X : St p l e R s m args below meth c n0 T h cells slots) {a : Addr} {vs : List Value} {j : Int32} {x : Int64} (F : AR Z h a .long vs) (hj : ¬ j < 0) (hv : vs[j.toNatClampNeg]? = some (.long x)) (hd : decode bytes pc = .ok (.laload, 1)) (K : Go p e below s n0 k n Q (T.setTop (mkF m (pc + 1) Ls (.long x :: rest)))) : Go p e below s n0 k n Q (T.setTop (mkF m pc Ls (.int j :: .ref a :: rest))) := by
  obtain ⟨e0, hz, locs, N, X⟩ := X
  obtain ⟨cl, A, r, -⟩ := F
  exact Go.st (X.laload C.hx (j := j) (v := .long x) (by rw [e0]; exact A.1) (State.isArrayOf_alike C.hZ.alike A.2.1) A.2.2 (AR.in (a := a) (ty := .long) r hj (ltOf hv)) (by rw [r]; simpa using hv) (g := mkF m pc Ls (.int j :: .ref a :: rest)) rfl rfl (hb C.hby hd)) K
theorem Go.baload (C : Ctx p s m meth c Z a0 ws own nm bytes ml ret) (X : St p l e R s m args below meth c n0 T h cells slots) {a : Addr} {vs : List Value} {j : Int32} {x : Int32} (F : AR Z h a .byte vs) (hj : ¬ j < 0) (hv : vs[j.toNatClampNeg]? = some (.int x)) (hd : decode bytes pc = .ok (.baload, 1)) (K : Go p e below s n0 k n Q (T.setTop (mkF m (pc + 1) Ls (.int x :: rest)))) : Go p e below s n0 k n Q (T.setTop (mkF m pc Ls (.int j :: .ref a :: rest))) := by
  obtain ⟨e0, hz, locs, N, X⟩ := X
  obtain ⟨cl, A, r, -⟩ := F
  exact Go.st (X.baloadBytes C.hx (j := j) (v := .int x) (by rw [e0]; exact A.1) (State.isArrayOf_alike C.hZ.alike A.2.1) A.2.2 (AR.in (a := a) (ty := .byte) r hj (ltOf hv)) (by rw [r]; simpa using hv) (g := mkF m pc Ls (.int j :: .ref a :: rest)) rfl rfl (hb C.hby hd)) K
theorem Go.aaload (C : Ctx p s m meth c Z a0 ws own nm bytes ml ret) (X : St p l e R s m args below meth c n0 T h cells slots) {a : Addr} {ty : FieldType} {vs : List Value} {j : Int32} {v : Value} (F : AR Z h a ty vs) (hty : ty.isReference = true) (hj : ¬ j < 0) (hv : vs[j.toNatClampNeg]? = some v) (hd : decode bytes pc = .ok (.aaload, 1)) (K : Go p e below s n0 k n Q (T.setTop (mkF m (pc + 1) Ls (v :: rest)))) : Go p e below s n0 k n Q (T.setTop (mkF m pc Ls (.int j :: .ref a :: rest))) := by
  obtain ⟨e0, hz, locs, N, X⟩ := X
  obtain ⟨cl, A, r, -⟩ := F
  exact Go.st (X.aaload C.hx (j := j) (v := v) (by rw [e0]; exact A.1) (State.isArrayOf_alike C.hZ.alike A.2.1) hty A.2.2 (AR.in (a := a) (ty := ty) r hj (ltOf hv)) (by rw [r]; simpa using hv) (g := mkF m pc Ls (.int j :: .ref a :: rest)) rfl rfl (hb C.hby hd)) K
theorem Go.alen (C : Ctx p s m meth c Z a0 ws own nm bytes ml ret) (X : St p l e R s m args below meth c n0 T h cells slots) {a : Addr} {ty : FieldType} {vs : List Value} {z : Int32} (F : AR Z h a ty vs) (hz : vs.length.toInt32 = z) (hd : decode bytes pc = .ok (.arraylength, 1)) (K : Go p e below s n0 k n Q (T.setTop (mkF m (pc + 1) Ls (.int z :: rest)))) : Go p e below s n0 k n Q (T.setTop (mkF m pc Ls (.ref a :: rest))) := by
  subst hz
  obtain ⟨e0, hz, locs, N, X⟩ := X
  obtain ⟨cl, A, r, -⟩ := F
  refine Go.st (X.arraylength C.hx (by rw [e0]; exact A.1) (State.isArrayOf_alike C.hZ.alike A.2.1) (g := mkF m pc Ls (.ref a :: rest)) rfl rfl (hb C.hby hd)) ?_
  rw [r]
  simpa using K
theorem Go.iastore (C : Ctx p s m meth c Z a0 ws own nm bytes ml ret) (X : St p l e R s m args below meth c n0 T h cells slots) {a : Addr} {vs : List Value} {j : Int32} {x : Int32} (F : AR Z h a .int vs) (hj : ¬ j < 0) (hl : j.toNatClampNeg < vs.length) (ha : n0 ≤ a) (hd : decode bytes pc = .ok (.iastore, 1)) (K : ∀ T' h', St p l e R s m args below meth c n0 T' h' cells slots → Wr h h' a j.toNatClampNeg (.int x) → AR Z h' a .int (vs.set j.toNatClampNeg (.int x)) → Go p e below s n0 k n Q (T'.setTop (mkF m (pc + 1) Ls rest))) : Go p e below s n0 k n Q (T.setTop (mkF m pc Ls (.int x :: .int j :: .ref a :: rest))) := by
  obtain ⟨e0, hz, locs, N, X⟩ := X
  have F0 := F
  obtain ⟨cl, A, r, -⟩ := F
  obtain ⟨T', h', X', e', W, st⟩ := Jvm.RoadKit.stI X C.hx C.hZ e0 A (j := j) (x := x) (AR.in (a := a) (ty := .int) r hj hl) (g := mkF m pc Ls (.int x :: .int j :: .ref a :: rest)) rfl rfl (hb C.hby hd)
  exact Go.st st (K T' h' ⟨e', hz, _, Fr.snoc X' N ha, X'⟩ W (F0.same W))
theorem Go.lastore (C : Ctx p s m meth c Z a0 ws own nm bytes ml ret) (X : St p l e R s m args below meth c n0 T h cells slots) {a : Addr} {vs : List Value} {j : Int32} {x : Int64} (F : AR Z h a .long vs) (hj : ¬ j < 0) (hl : j.toNatClampNeg < vs.length) (ha : n0 ≤ a) (hd : decode bytes pc = .ok (.lastore, 1)) (K : ∀ T' h', St p l e R s m args below meth c n0 T' h' cells slots → Wr h h' a j.toNatClampNeg (.long x) → AR Z h' a .long (vs.set j.toNatClampNeg (.long x)) → Go p e below s n0 k n Q (T'.setTop (mkF m (pc + 1) Ls rest))) : Go p e below s n0 k n Q (T.setTop (mkF m pc Ls (.long x :: .int j :: .ref a :: rest))) := by
  obtain ⟨e0, hz, locs, N, X⟩ := X
  have F0 := F
  obtain ⟨cl, A, r, -⟩ := F
  obtain ⟨T', h', X', e', W, st⟩ := Jvm.RoadKit.stJ X C.hx C.hZ e0 A (j := j) (x := x) (AR.in (a := a) (ty := .long) r hj hl) (g := mkF m pc Ls (.long x :: .int j :: .ref a :: rest)) rfl rfl (hb C.hby hd)
  exact Go.st st (K T' h' ⟨e', hz, _, Fr.snoc X' N ha, X'⟩ W (F0.same W))
theorem Go.bastore (C : Ctx p s m meth c Z a0 ws own nm bytes ml ret) (X : St p l e R s m args below meth c n0 T h cells slots) {a : Addr} {vs : List Value} {j : Int32} {x : Int32} (F : AR Z h a .byte vs) (hj : ¬ j < 0) (hl : j.toNatClampNeg < vs.length) (ha : n0 ≤ a) (hd : decode bytes pc = .ok (.bastore, 1)) (K : ∀ T' h', St p l e R s m args below meth c n0 T' h' cells slots → Wr h h' a j.toNatClampNeg (.int (nar .byte x)) → AR Z h' a .byte (vs.set j.toNatClampNeg (.int (nar .byte x))) → Go p e below s n0 k n Q (T'.setTop (mkF m (pc + 1) Ls rest))) : Go p e below s n0 k n Q (T.setTop (mkF m pc Ls (.int x :: .int j :: .ref a :: rest))) := by
  obtain ⟨e0, hz, locs, N, X⟩ := X
  have F0 := F
  obtain ⟨cl, A, r, -⟩ := F
  obtain ⟨T', h', X', e', W, st⟩ := Jvm.RoadKit.stB X C.hx C.hZ e0 A (j := j) (x := x) (AR.in (a := a) (ty := .byte) r hj hl) (g := mkF m pc Ls (.int x :: .int j :: .ref a :: rest)) rfl rfl (hb C.hby hd)
  exact Go.st st (K T' h' ⟨e', hz, _, Fr.snoc X' N ha, X'⟩ W (F0.same W))
theorem Con.back {y : MethodName} {rm : Room} {as : Array Value} {W : Nat} (H : Con l Z y bytes ml ret [] rm n0 as h Q) (hZ : Z.Warmed39 s.vm) (wc : (Jvm.Cond.code y bytes ml ret).before a0 Z = true) (wz : (Jvm.Cond.initialized y.cls).before a0 Z = true) (hf : rm.frames + 1 ≤ R.frames) (hl : W + (ml + 11) + rm.locals ≤ R.locals) :
    Back l R p e below s args y 3 W (fun A a => a = as ∧ A.U.heap = h ∧ A.cells + rm.cells ≤ R.cells ∧ A.slots + rm.slots ≤ R.slots)
      (fun A _ v B => ∃ L, (Q v B.U.heap ∧ Fr n0 L) ∧ B.locs = A.locs ++ L ∧ B.cells = A.cells + rm.cells ∧ B.slots = A.slots + rm.slots) :=
  backOf (Q := fun v h L => Q v h ∧ Fr n0 L) H hZ wc wz hf hl
theorem Go.callS (C : Ctx p s m meth c Z a0 ws own nm bytes ml ret) (X : St p l e R s m args below meth c n0 T h cells slots) {y : MethodName} {bytes' : ByteArray} {ml' : Nat} {ret' : Option FieldType} {rm : Room} {i W : Nat} {argsL : List Value} {Q' : Option Value → Heap → Prop} (w1 : Jvm.Cond.methodLink own i y ∈ ws) (w2 : Jvm.Cond.static y ∈ ws) (w3 : Jvm.Cond.initialized y.cls ∈ ws) (w4 : Jvm.Cond.code y bytes' ml' ret' ∈ ws) (hy : y.cls ≠ "java/lang/invoke/MethodHandle" ∧ y.cls ≠ "java/lang/invoke/VarHandle")
    (H : Con l Z y bytes' ml' ret' [] rm n0 argsL.toArray h Q') (hfr : rm.frames + 1 ≤ R.frames) (hlo : W + (ml' + 11) + rm.locals ≤ R.locals) (hsz : Ls.size = ml) (hlen : ∀ sig, parseMethodDescriptor y.desc = some sig → argsL.length = sig.parameters.length) (hW : (rest.map fun v => v.category).sum ≤ W) (hstk : stk = argsL.reverse ++ rest) (hd : decode bytes pc = .ok (.invokestatic i, 3)) (hce : cells + rm.cells ≤ R.cells) (hsl : slots + rm.slots ≤ R.slots) (K : ∀ T' h' v, St p l e R s m args below meth c n0 T' h' (cells + rm.cells) (slots + rm.slots) → Q' v h' → Go p e below s n0 k n Q (T'.setTop (mkF m (pc + 3) Ls (v.toList ++ rest)))) : Go p e below s n0 k n Q (T.setTop (mkF m pc Ls stk)) := by
  obtain ⟨e0, hz, locs, N, X⟩ := X
  obtain ⟨v, _, ⟨T', L', k', n'⟩, -, X', ⟨L, hQ, l1, y1, z1⟩, st⟩ := Jvm.LawKit.callS X C.hx (y := y) C.hown (mvT C.hZ (C.w w1)) (mvT C.hZ (C.w w2)) (mvT C.hZ (C.w w3)) (mvT C.hZ (C.w w4)) hy (H.back (W := W) C.hZ (C.w w4) (C.w w3) hfr hlo) (g := mkF m pc Ls stk) rfl (hsz.trans C.hml.symm) (argsL := argsL) (rest := rest) hlen hstk (by show 2 * 0 + _ ≤ _; omega) (hb C.hby hd) (fun _ _ => ⟨rfl, e0, hce, hsl⟩)
  dsimp only [Pt.U, Pt.locs, Pt.cells, Pt.slots] at X' l1 y1 z1 st hQ
  subst l1 y1 z1
  exact Go.st st (K T' _ v ⟨rfl, hz, _, N.app hQ.2, X'⟩ hQ.1)
theorem Go.callInit (C : Ctx p s m meth c Z a0 ws own nm bytes ml ret) (X : St p l e R s m args below meth c n0 T h cells slots) {y : MethodName} {bytes' : ByteArray} {ml' : Nat} {rm : Room} {i W : Nat} {argsL : List Value} {Q' : Option Value → Heap → Prop} {a : Addr} (hy1 : y.name = "<init>") (w1 : Jvm.Cond.methodLink own i y ∈ ws) (w2 : Jvm.Cond.instanceMethod y ∈ ws) (w3 : Jvm.Cond.initialized y.cls ∈ ws) (w4 : Jvm.Cond.code y bytes' ml' none ∈ ws) (hy : y.cls ≠ "java/lang/invoke/MethodHandle" ∧ y.cls ≠ "java/lang/invoke/VarHandle")
    (H : Con l Z y bytes' ml' none [] rm n0 (.ref a :: argsL).toArray h Q') (hfr : rm.frames + 1 ≤ R.frames) (hlo : W + (ml' + 11) + rm.locals ≤ R.locals) (hsz : Ls.size = ml) (hlen : ∀ sig, parseMethodDescriptor y.desc = some sig → argsL.length = sig.parameters.length) (hW : (rest.map fun v => v.category).sum ≤ W) (hstk : stk = argsL.reverse ++ .ref a :: rest) (hd : decode bytes pc = .ok (.invokespecial i, 3)) (hce : cells + rm.cells ≤ R.cells) (hsl : slots + rm.slots ≤ R.slots) (K : ∀ T' h' v, St p l e R s m args below meth c n0 T' h' (cells + rm.cells) (slots + rm.slots) → Q' v h' → Go p e below s n0 k n Q (T'.setTop (mkF m (pc + 3) Ls (v.toList ++ rest)))) : Go p e below s n0 k n Q (T.setTop (mkF m pc Ls stk)) := by
  obtain ⟨e0, hz, locs, N, X⟩ := X
  obtain ⟨v, _, ⟨T', L', k', n'⟩, -, X', ⟨L, hQ, l1, y1, z1⟩, st⟩ := X.specialBack C.hx (y := y) hy1 C.hown (mvT C.hZ (C.w w1)) (mvT C.hZ (C.w w2)) (mvT C.hZ (C.w w4)) hy (H.back (W := W) C.hZ (C.w w4) (C.w w3) hfr hlo) (g := mkF m pc Ls stk) rfl (hsz.trans C.hml.symm) (Steps.refl _) (a := a) (argsL := argsL) (rest := rest) hlen hstk (by show 2 * 0 + _ ≤ _; omega) (hb C.hby hd) (fun _ _ => ⟨rfl, e0, hce, hsl⟩)
  dsimp only [Pt.U, Pt.locs, Pt.cells, Pt.slots] at X' l1 y1 z1 st hQ
  subst l1 y1 z1
  exact Go.tr st (K T' _ v ⟨rfl, hz, _, N.app hQ.2, X'⟩ hQ.1)
theorem Go.callV (C : Ctx p s m meth c Z a0 ws own nm bytes ml ret) (X : St p l e R s m args below meth c n0 T h cells slots) {y : MethodName} {bytes' : ByteArray} {ml' : Nat} {ret' : Option FieldType} {rm : Room} {i W : Nat} {argsL : List Value} {Q' : Option Value → Heap → Prop} {a : Addr} {C1 : String} (E : Exa Z h a C1) (w1 : Jvm.Cond.methodLink own i y ∈ ws) (w2 : Jvm.Cond.declares y ∈ ws) (w5 : Jvm.Cond.selects C1 y y ∈ ws) (w6 : Jvm.Cond.instanceMethod y ∈ ws) (w3 : Jvm.Cond.initialized y.cls ∈ ws) (w4 : Jvm.Cond.code y bytes' ml' ret' ∈ ws) (hy : y.cls ≠ "java/lang/invoke/MethodHandle" ∧ y.cls ≠ "java/lang/invoke/VarHandle") (hC1 : C1 = y.cls)
    (H : Con l Z y bytes' ml' ret' [] rm n0 (.ref a :: argsL).toArray h Q') (hfr : rm.frames + 1 ≤ R.frames) (hlo : W + (ml' + 11) + rm.locals ≤ R.locals) (hsz : Ls.size = ml) (hlen : ∀ sig, parseMethodDescriptor y.desc = some sig → argsL.length = sig.parameters.length) (hW : (rest.map fun v => v.category).sum ≤ W) (hstk : stk = argsL.reverse ++ .ref a :: rest) (hd : decode bytes pc = .ok (.invokevirtual i, 3)) (hce : cells + rm.cells ≤ R.cells) (hsl : slots + rm.slots ≤ R.slots) (K : ∀ T' h' v, St p l e R s m args below meth c n0 T' h' (cells + rm.cells) (slots + rm.slots) → Q' v h' → Go p e below s n0 k n Q (T'.setTop (mkF m (pc + 3) Ls (v.toList ++ rest)))) : Go p e below s n0 k n Q (T.setTop (mkF m pc Ls stk)) := by
  subst hC1
  obtain ⟨e0, hz, locs, N, X⟩ := X
  obtain ⟨cq, kq, qa, qb, qc⟩ := isOf (T := T) C.hZ e0 E
  obtain ⟨v, _, ⟨T', L', k', n'⟩, -, X', ⟨L, hQ, l1, y1, z1⟩, st⟩ := X.virtualBack C.hx (y := y) (z := y) C.hown (mvT C.hZ (C.w w1)) (mvT C.hZ (C.w w2)) (notFace_of_selects (args := #[]) (mvT C.hZ (C.w w5))) (mvT C.hZ (C.w w5)) (mvT C.hZ (C.w w6)) hy (H.back (W := W) C.hZ (C.w w4) (C.w w3) hfr hlo) qa qc (g := mkF m pc Ls stk) rfl (hsz.trans C.hml.symm) (Steps.refl _) (argsL := argsL) (rest := rest) hlen hstk (by show 2 * 0 + _ ≤ _; omega) (hb C.hby hd) (fun _ _ => ⟨rfl, e0, hce, hsl⟩)
  dsimp only [Pt.U, Pt.locs, Pt.cells, Pt.slots] at X' l1 y1 z1 st hQ
  subst l1 y1 z1
  exact Go.tr st (K T' _ v ⟨rfl, hz, _, N.app hQ.2, X'⟩ hQ.1)
theorem Go.initO (C : Ctx p s m meth c Z a0 ws own nm bytes ml ret) (X : St p l e R s m args below meth c n0 T h cells slots) {i W : Nat} {a : Addr} (w1 : Jvm.Cond.methodLink own i Lib.objectInit ∈ ws) (w2 : Jvm.Cond.instanceMethod Lib.objectInit ∈ ws) (w3 : Jvm.Cond.code Lib.objectInit ⟨#[0xb1]⟩ 1 none ∈ ws) (hsz : Ls.size = ml) (hd : decode bytes pc = .ok (.invokespecial i, 3)) (hf : 1 ≤ R.frames) (hW : (rest.map fun v => v.category).sum ≤ W) (hl : W + 12 ≤ R.locals) (K : ∀ T', St p l e R s m args below meth c n0 T' h cells slots → Go p e below s n0 k n Q (T'.setTop (mkF m (pc + 3) Ls rest))) : Go p e below s n0 k n Q (T.setTop (mkF m pc Ls (.ref a :: rest))) := by
  obtain ⟨e0, hz, locs, N, X⟩ := X
  obtain ⟨T', X', e', st⟩ := Jvm.RoadKit.initO X C.hx C.hZ C.hown (C.w w1) (C.w w2) (C.w w3) e0 (g := mkF m pc Ls (.ref a :: rest)) rfl (hsz.trans C.hml.symm) rfl (hb C.hby hd) hf (W := W) (by show 2 * 0 + _ ≤ _; omega) hl
  exact Go.st st (K T' ⟨e', hz, locs, N, X'⟩)
theorem Go.ldcI (C : Ctx p s m meth c Z a0 ws own nm bytes ml ret) (X : St p l e R s m args below meth c n0 T h cells slots) {i : Nat} {x : Int32} (w : Jvm.Cond.constant own i x ∈ ws) (hd : decode bytes pc = .ok (.ldc i, 2)) (K : Go p e below s n0 k n Q (T.setTop (mkF m (pc + 2) Ls (.int x :: stk)))) : Go p e below s n0 k n Q (T.setTop (mkF m pc Ls stk)) := by
  obtain ⟨e0, hz, locs, N, X⟩ := X
  exact Go.st (fun _ => X.ldcI (g := mkF m pc Ls stk) C.hx C.hown (mvT C.hZ (C.w w)) rfl (hb C.hby hd)) K
theorem Go.ldcW (C : Ctx p s m meth c Z a0 ws own nm bytes ml ret) (X : St p l e R s m args below meth c n0 T h cells slots) {i : Nat} {x : Int32} (w : Jvm.Cond.constant own i x ∈ ws) (hd : decode bytes pc = .ok (.ldc_w i, 3)) (K : Go p e below s n0 k n Q (T.setTop (mkF m (pc + 3) Ls (.int x :: stk)))) : Go p e below s n0 k n Q (T.setTop (mkF m pc Ls stk)) := by
  obtain ⟨e0, hz, locs, N, X⟩ := X
  exact Go.st (fun _ => X.ldcWI (g := mkF m pc Ls stk) C.hx C.hown (mvT C.hZ (C.w w)) rfl (hb C.hby hd)) K
theorem Go.ldcJ (C : Ctx p s m meth c Z a0 ws own nm bytes ml ret) (X : St p l e R s m args below meth c n0 T h cells slots) {i : Nat} {x : Int64} (w : Jvm.Cond.constantLong own i x ∈ ws) (hd : decode bytes pc = .ok (.ldc2_w i, 3)) (K : Go p e below s n0 k n Q (T.setTop (mkF m (pc + 3) Ls (.long x :: stk)))) : Go p e below s n0 k n Q (T.setTop (mkF m pc Ls stk)) := by
  obtain ⟨e0, hz, locs, N, X⟩ := X
  exact Go.st (fun _ => X.ldc2J (g := mkF m pc Ls stk) C.hx C.hown (mvT C.hZ (C.w w)) rfl (hb C.hby hd)) K
theorem Go.irem (C : Ctx p s m meth c Z a0 ws own nm bytes ml ret) (X : St p l e R s m args below meth c n0 T h cells slots) {x y : Int32} (hy : y ≠ 0) (hd : decode bytes pc = .ok (.irem, 1)) (K : Go p e below s n0 k n Q (T.setTop (mkF m (pc + 1) Ls (.int (x % y) :: rest)))) : Go p e below s n0 k n Q (T.setTop (mkF m pc Ls (.int y :: .int x :: rest))) := by
  obtain ⟨e0, hz, locs, N, X⟩ := X
  exact Go.st (fun _ => Jvm.RoadKit.iremM (g := mkF m pc Ls (.int y :: .int x :: rest)) X C.hx rfl (hb C.hby hd) rfl hy) K
theorem Go.lrem (C : Ctx p s m meth c Z a0 ws own nm bytes ml ret) (X : St p l e R s m args below meth c n0 T h cells slots) {x y : Int64} (hy : y ≠ 0) (hd : decode bytes pc = .ok (.lrem, 1)) (K : Go p e below s n0 k n Q (T.setTop (mkF m (pc + 1) Ls (.long (x % y) :: rest)))) : Go p e below s n0 k n Q (T.setTop (mkF m pc Ls (.long y :: .long x :: rest))) := by
  refine Go.st (fun _ => XS.lrem (g := mkF m pc Ls (.long y :: .long x :: rest)) X.here C.hx rfl (hb C.hby hd) rfl hy) ?_
  rw [lrem_mod]
  exact K
theorem Go.dupX2 (C : Ctx p s m meth c Z a0 ws own nm bytes ml ret) (X : St p l e R s m args below meth c n0 T h cells slots) {x y z : Value} (h1 : x.category = 1) (h2 : y.category = 1) (h3 : z.category = 1) (hd : decode bytes pc = .ok (.dup_x2, 1)) (K : Go p e below s n0 k n Q (T.setTop (mkF m (pc + 1) Ls (x :: y :: z :: x :: rest)))) : Go p e below s n0 k n Q (T.setTop (mkF m pc Ls (x :: y :: z :: rest))) := by
  refine Go.st (fun t hr => ?_) K
  have hx := C.hx
  have hd' := hb C.hby hd
  jvm_step X.here [X.here.top, hx, hd', h1, h2, h3]
  exact hr
theorem eqI_v {args : Array Value} {first s : State} {o : Option Outcome} {idx : List Nat} {t : Term} {z : Int32} (q : (Jvm.Cond.eq t (Term.int z)).value args first o s idx = some true) : t.eval args first o idx s = some (.int z) := by
  obtain ⟨x, y, ha, hb, k1, k2⟩ := cmp_v (Or.inl q)
  have hy : y = .int z := by
    have r := Term.int_eval (args := args) (first := first) (o := o) (idx := idx) (s := s) z
    rw [r] at hb; exact (Option.some.inj hb).symm
  subst hy
  obtain ⟨u, rfl⟩ := k2
  rw [ha, gotT (Cond.eq_ints ha hb) q]
theorem fieldNe {args : Array Value} {first s : State} {o : Option Outcome} {idx : List Nat} {t t' : Term} {C f d : String} {a b : Addr} {z z' : Int32} (h1 : t.eval args first o idx s = some (.ref a)) (h2 : t'.eval args first o idx s = some (.ref b)) (q1 : (Jvm.Cond.eq (Term.field t C f d) (Term.int z)).value args first o s idx = some true) (q2 : (Jvm.Cond.eq (Term.field t' C f d) (Term.int z')).value args first o s idx = some true) (hz : z ≠ z') : a ≠ b := by
  intro r; subst r
  have e1 := eqI_v q1; have e2 := eqI_v q2
  rw [fld_at h1] at e1; rw [fld_at h2] at e2
  rw [e1] at e2
  cases e2; exact hz rfl
/-- an array whose elements are known and that may be cloned -/
def AF (Z : State) (h : Heap) (a : Addr) (ty : FieldType) (vs : List Value) : Prop := ∃ c : Cell, Arr Z h a c ty ∧ c.slots = vs.toArray ∧ vs.length < 2 ^ 31 ∧ FitC Z c
theorem AF.ar {a : Addr} {ty : FieldType} {vs : List Value} (F : AF Z h a ty vs) : AR Z h a ty vs := by obtain ⟨c, A, r, q, -⟩ := F; exact ⟨c, A, r, q⟩
theorem Go.clone (C : Ctx p s m meth c Z a0 ws own nm bytes ml ret) (X : St p l e R s m args below meth c n0 T h cells slots) {ad : String} {i W cap : Nat} {a : Addr} {ty : FieldType} {vs : List Value} (w1 : Jvm.Cond.methodLink own i ⟨ad, "clone", "()Ljava/lang/Object;"⟩ ∈ ws) (w2 : Jvm.Cond.sameMethod ad "java/lang/Object" "clone" "()Ljava/lang/Object;" ∈ ws) (w3 : Jvm.Cond.native ⟨"java/lang/Object", "clone", "()Ljava/lang/Object;"⟩ ∈ ws) (w4 : Jvm.Cond.instanceMethod ⟨"java/lang/Object", "clone", "()Ljava/lang/Object;"⟩ ∈ ws)
    (w5 : Jvm.Cond.selects ad ⟨ad, "clone", "()Ljava/lang/Object;"⟩ ⟨"java/lang/Object", "clone", "()Ljava/lang/Object;"⟩ ∈ ws) (w6 : Jvm.Cond.castable ad "java/lang/Cloneable" ∈ ws) (F : AF Z h a ty vs) (E : Exa Z h a ad) (hsz : Ls.size = ml) (hd : decode bytes pc = .ok (.invokevirtual i, 3)) (hf : 1 ≤ R.frames) (hW : (rest.map fun v => v.category).sum ≤ W) (hl : W + 14 ≤ R.locals) (hcap : vs.length ≤ cap) (hc : cells + 1 ≤ R.cells) (hsl : slots + cap ≤ R.slots)
    (K : ∀ T' h' b, h.size = b → n0 ≤ b → St p l e R s m args below meth c n0 T' h' (cells + 1) (slots + cap) → Ext h h' → AR Z h' b ty vs → Exa Z h' b ad → Go p e below s n0 k n Q (T'.setTop (mkF m (pc + 3) Ls (.ref b :: rest)))) : Go p e below s n0 k n Q (T.setTop (mkF m pc Ls (.ref a :: rest))) := by
  have hs := X.size
  obtain ⟨e0, hz, locs, N, X⟩ := X
  obtain ⟨cl, A, r, q, FC⟩ := F
  obtain ⟨T', h', X', e', Ex, A', E', st⟩ := Jvm.RoadKit.cloneA X C.hx C.hZ C.hown (C.w w1) (C.w w2) (C.w w3) (C.w w4) (C.w w5) (C.w w6) e0 A E FC (g := mkF m pc Ls (.ref a :: rest)) rfl (hsz.trans C.hml.symm) rfl (hb C.hby hd) hf (W := W) (cap := cap) (by show 2 * 0 + _ ≤ _; omega) hl (by rw [r]; simpa using hcap) hc hsl
  exact Go.st st (K T' h' _ rfl hs ⟨e', hz, _, N, X'⟩ Ex ⟨_, A', r, q⟩ E')
theorem Go.cast (C : Ctx p s m meth c Z a0 ws own nm bytes ml ret) (X : St p l e R s m args below meth c n0 T h cells slots) {i : Nat} {K1 : String} {a : Addr} (w : Jvm.Cond.classLink own i K1 ∈ ws) (F : Ins Z h a K1 true) (hd : decode bytes pc = .ok (.checkcast i, 3)) (K : ∀ T', St p l e R s m args below meth c n0 T' h cells slots → Go p e below s n0 k n Q (T'.setTop (mkF m (pc + 3) Ls (.ref a :: rest)))) : Go p e below s n0 k n Q (T.setTop (mkF m pc Ls (.ref a :: rest))) := by
  obtain ⟨e0, hz, locs, N, X⟩ := X
  obtain ⟨T', X', e', st⟩ := Jvm.RoadKit.castY X C.hx C.hZ C.hown (C.w w) e0 F (g := mkF m pc Ls (.ref a :: rest)) rfl rfl (hb C.hby hd)
  exact Go.st st (K T' ⟨e', hz, locs, N, X'⟩)
theorem elemRef {args : Array Value} {s : State} {t t' : Term} {a x : Addr} {cl : Cell} {j : Int32} (q : (Jvm.Cond.eq (Term.elem t (Term.int j)) t').value args s none s [] = some true) (ht : t.eval args s none [] s = some (.ref a)) (ht' : t'.eval args s none [] s = some (.ref x)) (hc : s.heap[a]? = some cl) : cl.slots[j.toNatClampNeg]? = some (.ref x) := by
  obtain ⟨u, v, ha, hb, k1, k2⟩ := cmp_v (Or.inl q)
  rw [ht'] at hb
  cases hb
  have e := gotT (eq_R ha ht' k2.2 rfl) q
  subst e
  exact (elem_in ha ht (Term.int_eval j) hc).2
theorem fldI {args : Array Value} {s : State} {t : Term} {a : Addr} {C f d : String} {z : Int32} (q : (Jvm.Cond.eq (Term.field t C f d) (Term.int z)).value args s none s [] = some true) (ht : t.eval args s none [] s = some (.ref a)) : Fld s s.heap a C f d (.int z) := by
  have e := eqI_v q
  rw [fld_at ht] at e
  exact Fld.start e
theorem lenOf' {args : Array Value} {s : State} {t : Term} {a : Addr} {cl : Cell} {ty : FieldType} {z : Int32} (q : (Jvm.Cond.eq (Term.length t) (Term.int z)).value args s none s [] = some true) (ht : t.eval args s none [] s = some (.ref a)) (A : Arr s s.heap a cl ty) : cl.slots.size.toInt32 = z ∧ cl.slots.size < 2 ^ 31 := by
  obtain ⟨b, cell, h1, h2, h3, h4⟩ := Jvm.Lib.length_spec (eqI_v q)
  rw [ht] at h1
  cases h1
  rw [A.fin (Vm.Alike.refl _)] at h2
  cases h2
  exact ⟨(Value.int.inj h4).symm, h3⟩
theorem Go.newPE (C : Ctx p s m meth c Z a0 ws own nm bytes ml ret) (X : St p l e R s m args below meth c n0 T h cells slots) {aty : ArrayType} {z : Int32} {cap : Nat} {ad : String} (w : Jvm.Cond.arrayClass (newarray.typeOf aty) ∈ ws) (had : "[" ++ (newarray.typeOf aty).toString = ad) (hd : decode bytes pc = .ok (.newarray aty, 2)) (hn : ¬ z < 0) (hcap : z.toNatClampNeg ≤ cap) (hb8 : cap * 8 ≤ 536870912) (hc : cells + 1 ≤ R.cells) (hl : slots + cap ≤ R.slots)
    (K : ∀ T' h' b, h.size = b → n0 ≤ b → St p l e R s m args below meth c n0 T' h' (cells + 1) (slots + cap) → Ext h h' → AR Z h' b (newarray.typeOf aty) (List.replicate z.toNatClampNeg (defaultValue (newarray.typeOf aty))) → Exa Z h' b ad → Go p e below s n0 k n Q (T'.setTop (mkF m (pc + 2) Ls (.ref b :: rest)))) : Go p e below s n0 k n Q (T.setTop (mkF m pc Ls (.int z :: rest))) := by
  have hs := X.size
  obtain ⟨e0, hz, locs, N, X⟩ := X
  obtain ⟨T', h', cA, X', e', E, F, EX, st⟩ := Jvm.RoadKit.newPE X C.hx C.hZ (C.w w) e0 (g := mkF m pc Ls (.int z :: rest)) rfl (hb C.hby hd) rfl hn hcap hb8 hc hl had
  exact Go.st st (K T' h' _ rfl hs ⟨e', hz, _, N, X'⟩ E (AR.of F hn) EX)
theorem AF.zero {a : Addr} {N : Nat} (F : AR Z h a .byte (List.replicate N (.int (0 : Int32)))) : AF Z h a .byte (List.replicate N (.int (0 : Int32))) := by
  obtain ⟨c, A, r, q⟩ := F
  refine ⟨c, A, r, q, fitC_of A fun i hi v hv => ?_⟩
  rw [r, List.getElem?_toArray, List.getElem?_replicate] at hv
  split at hv
  · cases hv; rfl
  · cases hv
theorem AR.arv0 {a : Addr} {N : Nat} (F : AR Z h a .byte (List.replicate N (.int (0 : Int32)))) : ∃ k, Arv Z h a k .byte N.toInt32 (List.replicate N (.int (0 : Int32))) (.int (0 : Int32)) := by
  obtain ⟨c, A, r, q⟩ := F
  rw [List.length_replicate] at q
  have sz : c.slots.size = N := by rw [r]; simp
  have cN : N.toInt32.toNatClampNeg = N := by simp only [Int32.toNatClampNeg, len_toInt q]; rfl
  have g0 : ∀ i, (List.replicate N (Value.int (0 : Int32))).getD i (.int (0 : Int32)) = .int (0 : Int32) := fun i => by
    rw [List.getD_eq_getElem?_getD, List.getElem?_replicate]; split <;> rfl
  refine ⟨c.cls, c, A, rfl, by rw [sz, cN], ?_, fun i hi => ?_, fun i _ => by rw [g0]; rfl⟩
  · rw [Int32.lt_iff_toInt_lt, len_toInt q]
    have h0 : (0 : Int32).toInt = 0 := rfl
    omega
  · rw [g0, r]
    rw [sz] at hi
    simp [List.getElem?_replicate, hi]
theorem Arv.ar0 {a : Addr} {k : ClassId} {N : Nat} {vs : List Value} (hN : N < 2 ^ 31) (F : Arv Z h a k .byte N.toInt32 vs (.int (0 : Int32))) (hv : ∀ i, vs.getD i (.int (0 : Int32)) = .int (0 : Int32)) : AR Z h a .byte (List.replicate N (.int (0 : Int32))) := by
  obtain ⟨c, A, -, S, -, H, -⟩ := F
  have cN : N.toInt32.toNatClampNeg = N := by simp only [Int32.toNatClampNeg, len_toInt hN]; rfl
  rw [cN] at S
  refine ⟨c, A, ?_, by rw [List.length_replicate]; exact hN⟩
  apply Array.ext_getElem?
  intro i
  by_cases q : i < N
  · rw [H i (by omega), hv]; simp [List.getElem?_replicate, q]
  · rw [Array.getElem?_eq_none (by omega), Array.getElem?_eq_none (by simp; omega)]
theorem Go.acopy0 (C : Ctx p s m meth c Z a0 ws own nm bytes ml ret) (X : St p l e R s m args below meth c n0 T h cells slots) {i W : Nat} {a b : Addr} {n1 n2 : Nat} {nn : Int32} (w1 : Jvm.Cond.methodLink own i Jvm.Stand.acN ∈ ws) (w2 : Jvm.Cond.native Jvm.Stand.acN ∈ ws) (w3 : Jvm.Cond.static Jvm.Stand.acN ∈ ws) (w4 : Jvm.Cond.initialized "java/lang/System" ∈ ws) (F1 : AR Z h a .byte (List.replicate n1 (.int (0 : Int32)))) (F2 : AR Z h b .byte (List.replicate n2 (.int (0 : Int32)))) (hnn : ¬ nn < 0) (h1 : nn.toNatClampNeg ≤ n1) (h2 : nn.toNatClampNeg ≤ n2) (gb : n0 ≤ b) (hsz : Ls.size = ml)
    (hd : decode bytes pc = .ok (.invokestatic i, 3)) (hf : 1 ≤ R.frames) (hW : (rest.map fun v => v.category).sum ≤ W) (hlo : W + (nativeFrameWords "java/lang/System" "arraycopy" 5 + 11) ≤ R.locals)
    (K : ∀ T' h', St p l e R s m args below meth c n0 T' h' cells slots → Keep h h' [b] → AR Z h' b .byte (List.replicate n2 (.int (0 : Int32))) → Go p e below s n0 k n Q (T'.setTop (mkF m (pc + 3) Ls rest))) : Go p e below s n0 k n Q (T.setTop (mkF m pc Ls (.int nn :: .int 0 :: .ref b :: .int 0 :: .ref a :: rest))) := by
  obtain ⟨e0, hz, locs, N, X⟩ := X
  obtain ⟨k1, V1⟩ := F1.arv0
  obtain ⟨k2, V2⟩ := F2.arv0
  have q1 : n1 < 2 ^ 31 := by obtain ⟨_, _, _, q⟩ := F1; rw [List.length_replicate] at q; exact q
  have q2 : n2 < 2 ^ 31 := by obtain ⟨_, _, _, q⟩ := F2; rw [List.length_replicate] at q; exact q
  have c1 : n1.toInt32.toNatClampNeg = n1 := by simp only [Int32.toNatClampNeg, len_toInt q1]; rfl
  have c2 : n2.toInt32.toNatClampNeg = n2 := by simp only [Int32.toNatClampNeg, len_toInt q2]; rfl
  have z0 : (0 : Int32).toNatClampNeg = 0 := rfl
  obtain ⟨T', h', L, X', e', N', KK, V', st⟩ := cpA X C.hx C.hZ C.hown (C.w w1) (C.w w2) (C.w w3) (C.w w4) e0 V1 V2 (sp := 0) (dp := 0) (nn := nn) (Or.inl ⟨rfl, rfl⟩) (by decide) (by decide) hnn (by rw [z0, c1]; omega) (by rw [z0, c2]; omega) rfl (by rw [z0, List.length_replicate]; omega) N gb (g := mkF m pc Ls (.int nn :: .int 0 :: .ref b :: .int 0 :: .ref a :: rest)) rfl (hsz.trans C.hml.symm) rfl (hb C.hby hd) hf (W := W) (by show 2 * 0 + _ ≤ _; omega) hlo
  refine Go.st st (K T' h' ⟨e', hz, L, N', X'⟩ KK (Arv.ar0 q2 V' fun j => ?_))
  have g0 : ∀ (vs : List Value), (∀ x ∈ vs, x = .int (0 : Int32)) → vs.getD j (.int (0 : Int32)) = .int (0 : Int32) := fun vs hv => by
    rw [List.getD_eq_getElem?_getD]
    cases hq : vs[j]? with
    | none => rfl
    | some x => exact hv x (List.mem_of_getElem? hq)
  refine g0 _ fun x hx => ?_
  rcases List.mem_append.mp hx with hx | hx
  · rcases List.mem_append.mp hx with hx | hx
    · rw [z0] at hx; simp at hx
    · obtain ⟨y, -, rfl⟩ := List.mem_map.mp hx
      rw [List.getD_eq_getElem?_getD, List.getElem?_replicate]; split <;> rfl
  · exact (List.mem_replicate.mp (List.mem_of_mem_drop hx)).2
end One
end Jvm.OwnGo
namespace Jvm.Pilot.@@N@@
open Jvm Jvm.ClassFile Sem Op Lib Jvm.Free Jvm.Stand Jvm.LawKit Jvm.RoadKit Bundle Jvm.OwnGo Jvm.Pilot.@@N@@.Jvm.D
def iV (x : Int) : Value := .int (Int32.ofInt x)
def BQ (Z : State) (h : Heap) (q a1 a2 a3 : Addr) (nw od : List Int) (nd : List Int32) (en ky : Int32) : Prop :=
  Exa Z h q "com/example/layrd/layrd/layout/BucketQueue" ∧ Fld Z h q "com/example/layrd/layrd/layout/BucketQueue" "newest" "[I" (.ref a1) ∧ Fld Z h q "com/example/layrd/layrd/layout/BucketQueue" "node" "[I" (.ref a2) ∧ Fld Z h q "com/example/layrd/layrd/layout/BucketQueue" "older" "[I" (.ref a3) ∧ Fld Z h q "com/example/layrd/layrd/layout/BucketQueue" "entries" "I" (.int en) ∧ Fld Z h q "com/example/layrd/layrd/layout/BucketQueue" "key" "I" (.int ky) ∧ AR Z h a1 .int (nw.map iV) ∧ AR Z h a2 .int (nd.map Value.int) ∧ AR Z h a3 .int (od.map iV)
def DQ (n0 : Nat) (q a1 a2 a3 : Addr) : Prop := n0 ≤ q ∧ n0 ≤ a1 ∧ n0 ≤ a2 ∧ n0 ≤ a3 ∧ q ≠ a1 ∧ q ≠ a2 ∧ q ≠ a3 ∧ a1 ≠ a2 ∧ a1 ≠ a3 ∧ a2 ≠ a3
theorem cl32 {i : Nat} (h : i < 2147483648) : i.toInt32.toNatClampNeg = i := by
  simp only [Int32.toNatClampNeg, len_toInt h]; rfl
theorem nn32 {i : Nat} (h : i < 2147483648) : ¬ i.toInt32 < 0 := by
  rw [Int32.lt_iff_toInt_lt, len_toInt h]
  have h0 : (0 : Int32).toInt = 0 := rfl
  omega
theorem lt32 {i N : Nat} (h : i < N) (hN : N < 2147483648) : i.toInt32 < N.toInt32 := by
  rw [Int32.lt_iff_toInt_lt, len_toInt (by omega), len_toInt (by omega)]; omega
theorem ltN {i N : Nat} (hN : N ≤ 8) (hi : i ≤ N) (h : i.toInt32 < N.toInt32) : i < N := by
  rw [Int32.lt_iff_toInt_lt, len_toInt (by omega), len_toInt (by omega)] at h; omega
theorem len_eq {i N : Nat} (hN : N ≤ 8) (hi : i ≤ N) (h : i.toInt32 = N.toInt32) : i = N := by
  rw [← Int32.toInt_inj, len_toInt (by omega), len_toInt (by omega)] at h; omega
theorem inc32 (i : Nat) : i.toInt32 + (1 : Int32) = (i + 1).toInt32 := by
  apply Int32.toBitVec_inj.mp
  show BitVec.ofNat 32 i + BitVec.ofNat 32 1 = BitVec.ofNat 32 (i + 1)
  rw [BitVec.ofNat_add]
def fillL (vs : List Value) (x : Int32) (i : Nat) : List Value := List.replicate i (.int x) ++ vs.drop i
theorem fill_zero (vs : List Value) (x : Int32) : fillL vs x 0 = vs := by simp [fillL]
theorem fill_end {vs : List Value} {x : Int32} {N : Nat} (h : vs.length = N) : fillL vs x N = List.replicate N (.int x) := by simp [fillL, ← h]
theorem fill_len {vs : List Value} {x : Int32} {i : Nat} : (fillL vs x i).length = i + (vs.length - i) := by simp [fillL]
theorem fill_set {vs : List Value} {x : Int32} {i : Nat} (h : i < vs.length ∧ i < 2147483648) : (fillL vs x i).set i.toInt32.toNatClampNeg (.int x) = fillL vs x (i + 1) := by
  rw [cl32 h.2]
  apply List.ext_getElem?
  intro j
  rw [List.getElem?_set]
  unfold fillL
  by_cases q : i = j
  · subst q
    rw [if_pos rfl, if_pos (by simp; omega), List.getElem?_append_left (by simp), List.getElem?_replicate, if_pos (by omega)]
  · rw [if_neg q]
    by_cases r : j < i
    · rw [List.getElem?_append_left (by simpa using r), List.getElem?_append_left (by simp; omega), List.getElem?_replicate, List.getElem?_replicate, if_pos r, if_pos (by omega)]
    · rw [List.getElem?_append_right (by simp; omega), List.getElem?_append_right (by simp; omega)]
      simp only [List.length_replicate, List.getElem?_drop]
      congr 1
      omega
theorem rep_iV {Z : State} {h : Heap} {a : Addr} {N : Nat} (F : AR Z h a .int (List.replicate N (.int (-1 : Int32)))) : AR Z h a .int ((List.replicate N (-1 : Int)).map iV) := by
  rw [List.map_replicate]; exact F
theorem rep_iV0 {Z : State} {h : Heap} {a : Addr} {N : Nat} (F : AR Z h a .int (List.replicate N (.int (0 : Int32)))) : AR Z h a .int ((List.replicate N (0 : Int)).map iV) := by
  rw [List.map_replicate]; exact F
theorem getN {nw : List Int} {i : Nat} (h : i < nw.length) (h2 : i < 2147483648) : (nw.map iV)[i.toInt32.toNatClampNeg]? = some (.int (Int32.ofInt (nw.getD i 0))) := by
  rw [cl32 h2, List.getElem?_map, List.getElem?_eq_getElem h, List.getD_eq_getElem?_getD, List.getElem?_eq_getElem h]; rfl
theorem getD3 {nd : List Int32} {i : Nat} (h : i < nd.length) (h2 : i < 2147483648) : (nd.map Value.int)[i.toInt32.toNatClampNeg]? = some (.int (nd.getD i 0)) := by
  rw [cl32 h2, List.getElem?_map, List.getElem?_eq_getElem h, List.getD_eq_getElem?_getD, List.getElem?_eq_getElem h]; rfl
theorem setI (B : List Int) {i : Nat} (h : i < 2147483648) (x : Int) : (B.map iV).set i.toInt32.toNatClampNeg (.int (Int32.ofInt x)) = (B.set i x).map iV := by
  rw [cl32 h, List.map_set]; rfl
theorem setV (B : List Int32) {i : Nat} (h : i < 2147483648) (x : Int32) : (B.map Value.int).set i.toInt32.toNatClampNeg (.int x) = (B.set i x).map Value.int := by
  rw [cl32 h, List.map_set]
def VN (nw : List Int) : Prop := ∀ j, j < nw.length → -1 ≤ nw.getD j 0 ∧ nw.getD j 0 < 3
def scan (nw : List Int) : Nat → Nat → Nat
  | 0, k => k
  | f + 1, k => if k < nw.length ∧ nw.getD k 0 < 0 then scan nw f (k + 1) else k
def tkK (nw : List Int) (ky : Nat) : Nat := scan nw 9 ky
def tkE (nw : List Int) (ky : Nat) : Int := if tkK nw ky = nw.length then -1 else nw.getD (tkK nw ky) 0
def tkV (nw : List Int) (nd : List Int32) (ky : Nat) : Int32 := if tkK nw ky = nw.length then -1 else nd.getD (nw.getD (tkK nw ky) 0).toNat 0
def tkN (nw od : List Int) (ky : Nat) : List Int := if tkK nw ky = nw.length then nw else nw.set (tkK nw ky) (od.getD (nw.getD (tkK nw ky) 0).toNat 0)
theorem small {x : Int} (h1 : -1 ≤ x) (h2 : x < 3) : (Int32.ofInt x).toInt = x := by
  exact Int32.toInt_ofInt_of_le (by omega) (by omega)
theorem negI {nw : List Int} (hV : VN nw) {k : Nat} (h : k < nw.length) : Int32.ofInt (nw.getD k 0) < 0 ↔ nw.getD k 0 < 0 := by
  obtain ⟨h1, h2⟩ := hV k h
  rw [Int32.lt_iff_toInt_lt, small h1 h2]
  exact Iff.rfl
theorem scan_stop {nw : List Int} {f k : Nat} (h : ¬ nw.getD k 0 < 0) : scan nw (f + 1) k = k := by
  unfold scan; rw [if_neg (fun q => h q.2)]
theorem scan_len {nw : List Int} {f k : Nat} (h : ¬ k < nw.length) : scan nw (f + 1) k = k := by
  unfold scan; rw [if_neg (fun q => h q.1)]
theorem scan_on {nw : List Int} {f k : Nat} (h : k < nw.length) (h2 : nw.getD k 0 < 0) : scan nw (f + 1) k = scan nw f (k + 1) := by
  conv => lhs; unfold scan
  rw [if_pos ⟨h, h2⟩]
theorem scan_neg {nw : List Int} : ∀ f k, nw.length - k ≤ f → scan nw f k < nw.length → ¬ nw.getD (scan nw f k) 0 < 0
  | 0, k, h1, h2 => by unfold scan at h2; omega
  | f + 1, k, h1, h2 => by
    unfold scan at h2 ⊢
    split
    · rename_i q
      rw [if_pos q] at h2
      exact scan_neg f (k + 1) (by omega) h2
    · rename_i q
      rw [if_neg q] at h2
      exact fun u => q ⟨h2, u⟩
theorem take_e {nw : List Int} {ky kk : Nat} (hV : VN nw) (hN : nw.length ≤ 8) (hk : kk = tkK nw ky) (hlt : kk < nw.length) : ∃ ee : Nat, nw.getD kk 0 = (ee : Int) ∧ Int32.ofInt (nw.getD kk 0) = ee.toInt32 ∧ ee < 3 := by
  obtain ⟨h1, h2⟩ := hV kk hlt
  have h3 : ¬ nw.getD kk 0 < 0 := by
    rw [hk] at hlt ⊢
    exact scan_neg 9 ky (by omega) hlt
  obtain ⟨e, he⟩ := Int.eq_ofNat_of_zero_le (show 0 ≤ nw.getD kk 0 by omega)
  refine ⟨e, he, ?_, by omega⟩
  rw [he]; rfl
theorem tk_end {nw od : List Int} {nd : List Int32} {ky kk : Nat} (hk : kk = tkK nw ky) (h : kk = nw.length) : tkN nw od ky = nw ∧ tkV nw nd ky = -1 := by
  unfold tkN tkV
  rw [if_pos (hk.symm.trans h), if_pos (hk.symm.trans h)]
  exact ⟨rfl, rfl⟩
theorem tk_hit {nw od : List Int} {nd : List Int32} {ky kk ee : Nat} (hk : kk = tkK nw ky) (h : kk < nw.length) (he : nw.getD kk 0 = (ee : Int)) : tkN nw od ky = nw.set kk (od.getD ee 0) ∧ tkV nw nd ky = nd.getD ee 0 := by
  unfold tkN tkV
  rw [← hk, if_neg (by omega), if_neg (by omega), he]
  exact ⟨rfl, rfl⟩
theorem d4_0 : decode jdk_65_method_103_code 0 = .ok (.iconst 0, 1) := by decide +kernel
theorem d4_1 : decode jdk_65_method_103_code 1 = .ok (.istore_n 2, 1) := by decide +kernel
theorem d4_2 : decode jdk_65_method_103_code 2 = .ok (.aload_n 0, 1) := by decide +kernel
theorem d4_3 : decode jdk_65_method_103_code 3 = .ok (.arraylength, 1) := by decide +kernel
theorem d4_4 : decode jdk_65_method_103_code 4 = .ok (.istore_n 3, 1) := by decide +kernel
theorem d4_5 : decode jdk_65_method_103_code 5 = .ok (.iload_n 2, 1) := by decide +kernel
theorem d4_6 : decode jdk_65_method_103_code 6 = .ok (.iload_n 3, 1) := by decide +kernel
theorem d4_7 : decode jdk_65_method_103_code 7 = .ok (.if_icmp .ge 13, 3) := by decide +kernel
theorem d4_10 : decode jdk_65_method_103_code 10 = .ok (.aload_n 0, 1) := by decide +kernel
theorem d4_11 : decode jdk_65_method_103_code 11 = .ok (.iload_n 2, 1) := by decide +kernel
theorem d4_12 : decode jdk_65_method_103_code 12 = .ok (.iload_n 1, 1) := by decide +kernel
theorem d4_13 : decode jdk_65_method_103_code 13 = .ok (.iastore, 1) := by decide +kernel
theorem d4_14 : decode jdk_65_method_103_code 14 = .ok (.iinc 2 1, 3) := by decide +kernel
theorem d4_17 : decode jdk_65_method_103_code 17 = .ok (.goto (-12), 3) := by decide +kernel
theorem d4_20 : decode jdk_65_method_103_code 20 = .ok (.return_, 1) := by decide +kernel
theorem pf_4 : plainFor (⟨"java/util/Arrays", "fill", "([II)V"⟩ : MethodName) = true := plainFor_of_name (by first | (simp [plainName, overriddenIn]; done) | decide +kernel)
theorem pd_4 : parseMethodDescriptor "([II)V" = some ⟨[(.array .int), .int], none⟩ := by decide +kernel
set_option maxRecDepth 65536 in
set_option maxHeartbeats 40000000 in
theorem loop_fill {p : Program} {l : Launch} {e : Env} {R : Room} {s : State} {m : MethodId} {args : Array Value} {below : List Frame} {meth : Method} {c : Code} {Z : State} {a0 : Array Value} {n0 kc kn cells slots : Nat} {Q : Option Value → Heap → Prop} (C : Ctx p s m meth c Z a0 tables_1 "java/util/Arrays" "fill" jdk_65_method_103_code 4 none) (a : Addr) (x : Int32) (ga : n0 ≤ a) (N : Nat) (hN : N ≤ 8) (vs : List Value) (hv : vs.length = N) (h0 : Heap) (hkc : cells ≤ kc) (hkn : slots ≤ kn) (hQ : ∀ h, AR Z h a .int (List.replicate N (.int x)) → Keep h0 h [a] → Q none h) : ∀ (k i : Nat) (T : State) (h : Heap), i + k = N → St p l e R s m args below meth c n0 T h cells slots → AR Z h a .int (fillL vs x i) → Keep h0 h [a] →
    Go p e below s n0 kc kn Q (T.setTop (mkF m 5 #[.val (.ref a), .val (.int x), .val (.int i.toInt32), .val (.int N.toInt32)] [])) := by
  intro k
  induction k with
  | zero =>
    intro i T h hi X A KK
    obtain rfl : i = N := by omega
    show Go p e below s n0 _ _ _ (T.setTop (mkF m 5 #[.val (.ref a), .val (.int x), .val (.int i.toInt32), .val (.int i.toInt32)] []))
    refine Go.st (fun _ => XS.iloadN X.here C.hx rfl (hb C.hby d4_5) rfl) ?_
    show Go p e below s n0 _ _ _ (T.setTop (mkF m 6 #[.val (.ref a), .val (.int x), .val (.int i.toInt32), .val (.int i.toInt32)] [(.int i.toInt32)]))
    refine Go.st (fun _ => XS.iloadN X.here C.hx rfl (hb C.hby d4_6) rfl) ?_
    show Go p e below s n0 _ _ _ (T.setTop (mkF m 7 #[.val (.ref a), .val (.int x), .val (.int i.toInt32), .val (.int i.toInt32)] [(.int i.toInt32), (.int i.toInt32)]))
    refine Go.icmp_ge C X (pc' := 20) d4_7 (by decide) (by decide) (fun _ => ?_) (fun hc => by first | exact absurd hc (irr _) | exact absurd (irr _) hc)
    show Go p e below s n0 _ _ _ (T.setTop (mkF m 20 #[.val (.ref a), .val (.int x), .val (.int i.toInt32), .val (.int i.toInt32)] []))
    exact Go.retV C X d4_20 (hQ _ (by rw [fill_end hv] at A; exact A) KK) hkc hkn
  | succ k ih =>
    intro i T h hi X A KK
    have hlt : i.toInt32 < N.toInt32 := lt32 (by omega) (by omega)
    show Go p e below s n0 _ _ _ (T.setTop (mkF m 5 #[.val (.ref a), .val (.int x), .val (.int i.toInt32), .val (.int N.toInt32)] []))
    refine Go.st (fun _ => XS.iloadN X.here C.hx rfl (hb C.hby d4_5) rfl) ?_
    show Go p e below s n0 _ _ _ (T.setTop (mkF m 6 #[.val (.ref a), .val (.int x), .val (.int i.toInt32), .val (.int N.toInt32)] [(.int i.toInt32)]))
    refine Go.st (fun _ => XS.iloadN X.here C.hx rfl (hb C.hby d4_6) rfl) ?_
    show Go p e below s n0 _ _ _ (T.setTop (mkF m 7 #[.val (.ref a), .val (.int x), .val (.int i.toInt32), .val (.int N.toInt32)] [(.int N.toInt32), (.int i.toInt32)]))
    refine Go.icmp_ge C X (pc' := 20) d4_7 (by decide) (by decide) (fun hc => by first | exact absurd hc hlt | exact absurd hlt hc) (fun _ => ?_)
    show Go p e below s n0 _ _ _ (T.setTop (mkF m 10 #[.val (.ref a), .val (.int x), .val (.int i.toInt32), .val (.int N.toInt32)] []))
    refine Go.st (fun _ => XS.aloadN X.here C.hx rfl (hb C.hby d4_10) rfl rfl) ?_
    show Go p e below s n0 _ _ _ (T.setTop (mkF m 11 #[.val (.ref a), .val (.int x), .val (.int i.toInt32), .val (.int N.toInt32)] [(.ref a)]))
    refine Go.st (fun _ => XS.iloadN X.here C.hx rfl (hb C.hby d4_11) rfl) ?_
    show Go p e below s n0 _ _ _ (T.setTop (mkF m 12 #[.val (.ref a), .val (.int x), .val (.int i.toInt32), .val (.int N.toInt32)] [(.int i.toInt32), (.ref a)]))
    refine Go.st (fun _ => XS.iloadN X.here C.hx rfl (hb C.hby d4_12) rfl) ?_
    show Go p e below s n0 _ _ _ (T.setTop (mkF m 13 #[.val (.ref a), .val (.int x), .val (.int i.toInt32), .val (.int N.toInt32)] [(.int x), (.int i.toInt32), (.ref a)]))
    refine Go.iastore C X A (nn32 (by omega)) (by rw [cl32 (by omega), fill_len]; omega) ga d4_13 (fun T103 h103 X103 W103 A103 => ?_)
    have K103 : Keep h0 h103 [a] := KK.wr W103 (Or.inl (by simp))
    show Go p e below s n0 _ _ _ (T103.setTop (mkF m 14 #[.val (.ref a), .val (.int x), .val (.int i.toInt32), .val (.int N.toInt32)] []))
    refine Go.st (fun _ => XS.iinc X103.here C.hx rfl (hb C.hby d4_14) rfl (l' := #[.val (.ref a), .val (.int x), .val (.int (i.toInt32 + (1 : Int32))), .val (.int N.toInt32)]) rfl) ?_
    show Go p e below s n0 _ _ _ (T103.setTop (mkF m 17 #[.val (.ref a), .val (.int x), .val (.int (i.toInt32 + (1 : Int32))), .val (.int N.toInt32)] []))
    refine Go.st (fun _ => XS.goto X103.here C.hx rfl (pc0 := 17) (pc' := 5) rfl (hb C.hby d4_17) (by decide) (by decide)) ?_
    show Go p e below s n0 _ _ _ (T103.setTop (mkF m 5 #[.val (.ref a), .val (.int x), .val (.int (i.toInt32 + (1 : Int32))), .val (.int N.toInt32)] []))
    rw [inc32 i]
    refine ih (i + 1) T103 h103 (by omega) X103 ?_ K103
    rw [← fill_set ⟨by omega, by omega⟩]
    exact A103
set_option maxRecDepth 65536 in
set_option maxHeartbeats 40000000 in
theorem con_fill (l : Launch) (Z : State) (a0 : Array Value) (hw : ∀ d ∈ tables_1, d.before a0 Z = true) (n0 : Nat) (h0 : Heap) (Z0 : n0 ≤ h0.size) (a : Addr) (x : Int32) (N : Nat) (vs : List Value) (ga : n0 ≤ a) (hN : N ≤ 8) (hv : vs.length = N) (A : AR Z h0 a .int vs) :
    Con l Z (⟨"java/util/Arrays", "fill", "([II)V"⟩ : MethodName) jdk_65_method_103_code 4 none [] ({ frames := 0, cells := 0, slots := 0, locals := 0 } : Room) n0 #[(.ref a), (.int x)] h0 (fun v h => v = none ∧ AR Z h a .int (List.replicate N (.int x)) ∧ Keep h0 h [a]) := by
  refine Con.mk pf_4 hw Z0 ?_
  intro p e s m below meth c T0 C X0
  have ef : entryFrame m #[(.ref a), (.int x)] 4 = mkF m 0 #[.val (.ref a), .val (.int x), .unset, .unset] [] := by first | (simp [entryFrame, mkF, argsToLocals, Value.category]; done) | rfl
  rw [ef]
  show Go p e below s n0 _ _ _ (T0.setTop (mkF m 0 #[.val (.ref a), .val (.int x), .unset, .unset] []))
  refine Go.st (fun _ => XS.iconst X0.here C.hx rfl (hb C.hby d4_0)) ?_
  show Go p e below s n0 _ _ _ (T0.setTop (mkF m 1 #[.val (.ref a), .val (.int x), .unset, .unset] [(.int (0 : Int32))]))
  refine Go.st (fun _ => XS.istoreN X0.here C.hx rfl (hb C.hby d4_1) rfl (l' := #[.val (.ref a), .val (.int x), .val (.int (0 : Int32)), .unset]) rfl) ?_
  show Go p e below s n0 _ _ _ (T0.setTop (mkF m 2 #[.val (.ref a), .val (.int x), .val (.int (0 : Int32)), .unset] []))
  refine Go.st (fun _ => XS.aloadN X0.here C.hx rfl (hb C.hby d4_2) rfl rfl) ?_
  show Go p e below s n0 _ _ _ (T0.setTop (mkF m 3 #[.val (.ref a), .val (.int x), .val (.int (0 : Int32)), .unset] [(.ref a)]))
  refine Go.alen C X0 A (z := N.toInt32) (by rw [hv]) d4_3 ?_
  show Go p e below s n0 _ _ _ (T0.setTop (mkF m 4 #[.val (.ref a), .val (.int x), .val (.int (0 : Int32)), .unset] [(.int N.toInt32)]))
  refine Go.st (fun _ => XS.istoreN X0.here C.hx rfl (hb C.hby d4_4) rfl (l' := #[.val (.ref a), .val (.int x), .val (.int (0 : Int32)), .val (.int N.toInt32)]) rfl) ?_
  show Go p e below s n0 _ _ _ (T0.setTop (mkF m 5 #[.val (.ref a), .val (.int x), .val (.int (0 : Int32)), .val (.int N.toInt32)] []))
  exact loop_fill C a x ga N hN vs hv h0 (by decide) (by decide) (fun h q1 q2 => ⟨rfl, q1, q2⟩) N 0 T0 h0 (by omega) X0 (by rw [fill_zero]; exact A) (Keep.refl _ _)
theorem d3_0 : decode prog_57_method_2_code 0 = .ok (.aload_n 0, 1) := by decide +kernel
theorem d3_1 : decode prog_57_method_2_code 1 = .ok (.getfield 7, 3) := by decide +kernel
theorem d3_4 : decode prog_57_method_2_code 4 = .ok (.iconst (-1), 1) := by decide +kernel
theorem d3_5 : decode prog_57_method_2_code 5 = .ok (.invokestatic 22, 3) := by decide +kernel
theorem d3_8 : decode prog_57_method_2_code 8 = .ok (.aload_n 0, 1) := by decide +kernel
theorem d3_9 : decode prog_57_method_2_code 9 = .ok (.iconst 0, 1) := by decide +kernel
theorem d3_10 : decode prog_57_method_2_code 10 = .ok (.putfield 28, 3) := by decide +kernel
theorem d3_13 : decode prog_57_method_2_code 13 = .ok (.aload_n 0, 1) := by decide +kernel
theorem d3_14 : decode prog_57_method_2_code 14 = .ok (.iconst 0, 1) := by decide +kernel
theorem d3_15 : decode prog_57_method_2_code 15 = .ok (.putfield 32, 3) := by decide +kernel
theorem d3_18 : decode prog_57_method_2_code 18 = .ok (.return_, 1) := by decide +kernel
theorem pf_3 : plainFor (⟨"com/example/layrd/layrd/layout/BucketQueue", "clear", "()V"⟩ : MethodName) = true := plainFor_of_name (by first | (simp [plainName, overriddenIn]; done) | decide +kernel)
theorem pd_3 : parseMethodDescriptor "()V" = some ⟨[], none⟩ := by decide +kernel
set_option maxRecDepth 65536 in
set_option maxHeartbeats 40000000 in
theorem con_clear (l : Launch) (Z : State) (a0 : Array Value) (hw : ∀ d ∈ tables_1, d.before a0 Z = true) (n0 : Nat) (h0 : Heap) (Z0 : n0 ≤ h0.size) (q a1 a2 a3 : Addr) (nw od : List Int) (nd : List Int32) (en ky : Int32) (hD : DQ n0 q a1 a2 a3) (hN : nw.length ≤ 8) (hq : BQ Z h0 q a1 a2 a3 nw od nd en ky) :
    Con l Z (⟨"com/example/layrd/layrd/layout/BucketQueue", "clear", "()V"⟩ : MethodName) prog_57_method_2_code 1 none [] ({ frames := 1, cells := 0, slots := 0, locals := 17 } : Room) n0 #[(.ref q)] h0 (fun v h => v = none ∧ BQ Z h q a1 a2 a3 (List.replicate nw.length (-1)) od nd 0 0) := by
  refine Con.mk pf_3 hw Z0 ?_
  intro p e s m below meth c T0 C X0
  have ef : entryFrame m #[(.ref q)] 1 = mkF m 0 #[.val (.ref q)] [] := by first | (simp [entryFrame, mkF, argsToLocals, Value.category]; done) | rfl
  rw [ef]
  obtain ⟨E, Fnewest, Fnode, Folder, Fentries, Fkey, Aa1, Aa2, Aa3⟩ := hq
  obtain ⟨gq, g1, g2, g3, nq1, nq2, nq3, n12, n13, n23⟩ := hD
  show Go p e below s n0 _ _ _ (T0.setTop (mkF m 0 #[.val (.ref q)] []))
  refine Go.st (fun _ => XS.aloadN X0.here C.hx rfl (hb C.hby d3_0) rfl rfl) ?_
  show Go p e below s n0 _ _ _ (T0.setTop (mkF m 1 #[.val (.ref q)] [(.ref q)]))
  refine Go.getF C X0 (wd 10 rfl) Fnewest d3_1 (fun T104 X104 => ?_)
  show Go p e below s n0 _ _ _ (T104.setTop (mkF m 4 #[.val (.ref q)] [(.ref a1)]))
  refine Go.st (fun _ => XS.iconst X104.here C.hx rfl (hb C.hby d3_4)) ?_
  show Go p e below s n0 _ _ _ (T104.setTop (mkF m 5 #[.val (.ref q)] [(.int (-1 : Int32)), (.ref a1)]))
  refine Go.callS C X104 (W := 0) (argsL := [(.ref a1), (.int (-1 : Int32))]) (rest := []) (wd 21 rfl) (wd 22 rfl) (wd 23 rfl) (wd 24 rfl) (by decide) (con_fill l Z a0 hw n0 h0 X104.size a1 (-1 : Int32) nw.length _ g1 hN (by rw [List.length_map]) Aa1) (by decide) (by decide) rfl (lenOf pd_4 rfl) (Nat.le_of_ble_eq_true rfl) rfl d3_5 (by decide) (by decide) (fun T105 h105 v105 X105 hQ105 => ?_)
  obtain ⟨rfl, A105, K105⟩ := hQ105
  have Aa2_106 : AR Z h105 a2 .int (nd.map Value.int) := (Aa2.keep K105 (ninS (Ne.symm n12) nin0))
  have Aa3_107 : AR Z h105 a3 .int (od.map iV) := (Aa3.keep K105 (ninS (Ne.symm n13) nin0))
  show Go p e below s n0 _ _ _ (T105.setTop (mkF m 8 #[.val (.ref q)] []))
  refine Go.st (fun _ => XS.aloadN X105.here C.hx rfl (hb C.hby d3_8) rfl rfl) ?_
  show Go p e below s n0 _ _ _ (T105.setTop (mkF m 9 #[.val (.ref q)] [(.ref q)]))
  refine Go.st (fun _ => XS.iconst X105.here C.hx rfl (hb C.hby d3_9)) ?_
  show Go p e below s n0 _ _ _ (T105.setTop (mkF m 10 #[.val (.ref q)] [(.int (0 : Int32)), (.ref q)]))
  refine Go.putF C X105 (wd 25 rfl) (Fentries.keep K105 (ninS nq1 nin0)) (E.keep K105) (Or.inl (wd 26 rfl)) (wd 1 rfl) (ty := .int) (by decide) rfl rfl gq d3_10 (fun T108 h108 X108 W108 F108 => ?_)
  have Fnewest_109 : Fld Z h108 q "com/example/layrd/layrd/layout/BucketQueue" "newest" "[I" (.ref a1) := (Fld.other W108 (Fnewest.keep K105 (ninS nq1 nin0)) (Or.inr (slot_ne (Or.inr (C.w (wd 11 rfl))) (Or.inl (C.w (wd 26 rfl))) (by decide) (t := (.array .int)) (t' := .int) (by decide) (by decide))))
  have Fnode_110 : Fld Z h108 q "com/example/layrd/layrd/layout/BucketQueue" "node" "[I" (.ref a2) := (Fld.other W108 (Fnode.keep K105 (ninS nq1 nin0)) (Or.inr (slot_ne (Or.inr (C.w (wd 13 rfl))) (Or.inl (C.w (wd 26 rfl))) (by decide) (t := (.array .int)) (t' := .int) (by decide) (by decide))))
  have Folder_111 : Fld Z h108 q "com/example/layrd/layrd/layout/BucketQueue" "older" "[I" (.ref a3) := (Fld.other W108 (Folder.keep K105 (ninS nq1 nin0)) (Or.inr (slot_ne (Or.inr (C.w (wd 15 rfl))) (Or.inl (C.w (wd 26 rfl))) (by decide) (t := (.array .int)) (t' := .int) (by decide) (by decide))))
  have Fkey_112 : Fld Z h108 q "com/example/layrd/layrd/layout/BucketQueue" "key" "I" (.int ky) := (Fld.other W108 (Fkey.keep K105 (ninS nq1 nin0)) (Or.inr (slot_ne (Or.inl (C.w (wd 28 rfl))) (Or.inl (C.w (wd 26 rfl))) (by decide) (t := .int) (t' := .int) (by decide) (by decide))))
  show Go p e below s n0 _ _ _ (T108.setTop (mkF m 13 #[.val (.ref q)] []))
  refine Go.st (fun _ => XS.aloadN X108.here C.hx rfl (hb C.hby d3_13) rfl rfl) ?_
  show Go p e below s n0 _ _ _ (T108.setTop (mkF m 14 #[.val (.ref q)] [(.ref q)]))
  refine Go.st (fun _ => XS.iconst X108.here C.hx rfl (hb C.hby d3_14)) ?_
  show Go p e below s n0 _ _ _ (T108.setTop (mkF m 15 #[.val (.ref q)] [(.int (0 : Int32)), (.ref q)]))
  refine Go.putF C X108 (wd 27 rfl) Fkey_112 (Exa.wr W108 (E.keep K105)) (Or.inl (wd 28 rfl)) (wd 1 rfl) (ty := .int) (by decide) rfl rfl gq d3_15 (fun T113 h113 X113 W113 F113 => ?_)
  have E_114 : Exa Z h113 q "com/example/layrd/layrd/layout/BucketQueue" := (Exa.wr W113 (Exa.wr W108 (E.keep K105)))
  have Fnewest_115 : Fld Z h113 q "com/example/layrd/layrd/layout/BucketQueue" "newest" "[I" (.ref a1) := (Fld.other W113 Fnewest_109 (Or.inr (slot_ne (Or.inr (C.w (wd 11 rfl))) (Or.inl (C.w (wd 28 rfl))) (by decide) (t := (.array .int)) (t' := .int) (by decide) (by decide))))
  have Fnode_116 : Fld Z h113 q "com/example/layrd/layrd/layout/BucketQueue" "node" "[I" (.ref a2) := (Fld.other W113 Fnode_110 (Or.inr (slot_ne (Or.inr (C.w (wd 13 rfl))) (Or.inl (C.w (wd 28 rfl))) (by decide) (t := (.array .int)) (t' := .int) (by decide) (by decide))))
  have Folder_117 : Fld Z h113 q "com/example/layrd/layrd/layout/BucketQueue" "older" "[I" (.ref a3) := (Fld.other W113 Folder_111 (Or.inr (slot_ne (Or.inr (C.w (wd 15 rfl))) (Or.inl (C.w (wd 28 rfl))) (by decide) (t := (.array .int)) (t' := .int) (by decide) (by decide))))
  have Fentries_118 : Fld Z h113 q "com/example/layrd/layrd/layout/BucketQueue" "entries" "I" (.int (0 : Int32)) := (Fld.other W113 F108 (Or.inr (slot_ne (Or.inl (C.w (wd 26 rfl))) (Or.inl (C.w (wd 28 rfl))) (by decide) (t := .int) (t' := .int) (by decide) (by decide))))
  have Aa1_119 : AR Z h113 a1 .int ((List.replicate nw.length (-1)).map iV) := (((rep_iV A105).other W108 (Ne.symm nq1)).other W113 (Ne.symm nq1))
  have Aa2_120 : AR Z h113 a2 .int (nd.map Value.int) := ((Aa2_106.other W108 (Ne.symm nq2)).other W113 (Ne.symm nq2))
  have Aa3_121 : AR Z h113 a3 .int (od.map iV) := ((Aa3_107.other W108 (Ne.symm nq3)).other W113 (Ne.symm nq3))
  show Go p e below s n0 _ _ _ (T113.setTop (mkF m 18 #[.val (.ref q)] []))
  exact Go.retV C X113 d3_18 ⟨rfl, ⟨E_114, Fnewest_115, Fnode_116, Folder_117, Fentries_118, F113, Aa1_119, Aa2_120, Aa3_121⟩⟩ (by decide) (by decide)
theorem d1_0 : decode prog_57_method_1_code 0 = .ok (.aload_n 0, 1) := by decide +kernel
theorem d1_1 : decode prog_57_method_1_code 1 = .ok (.invokespecial 1, 3) := by decide +kernel
theorem d1_4 : decode prog_57_method_1_code 4 = .ok (.aload_n 0, 1) := by decide +kernel
theorem d1_5 : decode prog_57_method_1_code 5 = .ok (.iload_n 1, 1) := by decide +kernel
theorem d1_6 : decode prog_57_method_1_code 6 = .ok (.iconst 1, 1) := by decide +kernel
theorem d1_7 : decode prog_57_method_1_code 7 = .ok (.iadd, 1) := by decide +kernel
theorem d1_8 : decode prog_57_method_1_code 8 = .ok (.newarray .int, 2) := by decide +kernel
theorem d1_10 : decode prog_57_method_1_code 10 = .ok (.putfield 7, 3) := by decide +kernel
theorem d1_13 : decode prog_57_method_1_code 13 = .ok (.aload_n 0, 1) := by decide +kernel
theorem d1_14 : decode prog_57_method_1_code 14 = .ok (.iload_n 2, 1) := by decide +kernel
theorem d1_15 : decode prog_57_method_1_code 15 = .ok (.newarray .int, 2) := by decide +kernel
theorem d1_17 : decode prog_57_method_1_code 17 = .ok (.putfield 13, 3) := by decide +kernel
theorem d1_20 : decode prog_57_method_1_code 20 = .ok (.aload_n 0, 1) := by decide +kernel
theorem d1_21 : decode prog_57_method_1_code 21 = .ok (.iload_n 2, 1) := by decide +kernel
theorem d1_22 : decode prog_57_method_1_code 22 = .ok (.newarray .int, 2) := by decide +kernel
theorem d1_24 : decode prog_57_method_1_code 24 = .ok (.putfield 16, 3) := by decide +kernel
theorem d1_27 : decode prog_57_method_1_code 27 = .ok (.aload_n 0, 1) := by decide +kernel
theorem d1_28 : decode prog_57_method_1_code 28 = .ok (.invokevirtual 19, 3) := by decide +kernel
theorem d1_31 : decode prog_57_method_1_code 31 = .ok (.return_, 1) := by decide +kernel
theorem pf_1 : plainFor (⟨"com/example/layrd/layrd/layout/BucketQueue", "<init>", "(II)V"⟩ : MethodName) = true := plainFor_of_name (by first | (simp [plainName, overriddenIn]; done) | decide +kernel)
theorem pd_1 : parseMethodDescriptor "(II)V" = some ⟨[.int, .int], none⟩ := by decide +kernel
set_option maxRecDepth 65536 in
set_option maxHeartbeats 40000000 in
theorem con_init (l : Launch) (Z : State) (a0 : Array Value) (hw : ∀ d ∈ tables_1, d.before a0 Z = true) (n0 : Nat) (h0 : Heap) (Z0 : n0 ≤ h0.size) (q : Addr) (bz : Int32) (M : Nat) (gq : n0 ≤ q) (E : Exa Z h0 q "com/example/layrd/layrd/layout/BucketQueue") (Fnewest : Fld Z h0 q "com/example/layrd/layrd/layout/BucketQueue" "newest" "[I" .null) (Fnode : Fld Z h0 q "com/example/layrd/layrd/layout/BucketQueue" "node" "[I" .null) (Folder : Fld Z h0 q "com/example/layrd/layrd/layout/BucketQueue" "older" "[I" .null) (Fentries : Fld Z h0 q "com/example/layrd/layrd/layout/BucketQueue" "entries" "I" (.int (0 : Int32))) (Fkey : Fld Z h0 q "com/example/layrd/layrd/layout/BucketQueue" "key" "I" (.int (0 : Int32))) (hM : (bz + (1 : Int32)).toNatClampNeg = M) (hM8 : M ≤ 8) (hnn : ¬ (bz + (1 : Int32)) < 0) :
    Con l Z (⟨"com/example/layrd/layrd/layout/BucketQueue", "<init>", "(II)V"⟩ : MethodName) prog_57_method_1_code 3 none [] ({ frames := 2, cells := 3, slots := 14, locals := 29 } : Room) n0 #[(.ref q), (.int bz), (.int (3 : Int32))] h0 (fun v h => v = none ∧ ∃ a1 a2 a3, DQ n0 q a1 a2 a3 ∧ BQ Z h q a1 a2 a3 (List.replicate M (-1)) [0, 0, 0] [0, 0, 0] 0 0) := by
  refine Con.mk pf_1 hw Z0 ?_
  intro p e s m below meth c T0 C X0
  have ef : entryFrame m #[(.ref q), (.int bz), (.int (3 : Int32))] 3 = mkF m 0 #[.val (.ref q), .val (.int bz), .val (.int (3 : Int32))] [] := by first | (simp [entryFrame, mkF, argsToLocals, Value.category]; done) | rfl
  rw [ef]
  show Go p e below s n0 _ _ _ (T0.setTop (mkF m 0 #[.val (.ref q), .val (.int bz), .val (.int (3 : Int32))] []))
  refine Go.st (fun _ => XS.aloadN X0.here C.hx rfl (hb C.hby d1_0) rfl rfl) ?_
  show Go p e below s n0 _ _ _ (T0.setTop (mkF m 1 #[.val (.ref q), .val (.int bz), .val (.int (3 : Int32))] [(.ref q)]))
  refine Go.initO C X0 (W := 0) (wd 6 rfl) (wd 7 rfl) (wd 8 rfl) rfl d1_1 (by decide) (Nat.le_of_ble_eq_true rfl) (by decide) (fun T122 X122 => ?_)
  show Go p e below s n0 _ _ _ (T122.setTop (mkF m 4 #[.val (.ref q), .val (.int bz), .val (.int (3 : Int32))] []))
  refine Go.st (fun _ => XS.aloadN X122.here C.hx rfl (hb C.hby d1_4) rfl rfl) ?_
  show Go p e below s n0 _ _ _ (T122.setTop (mkF m 5 #[.val (.ref q), .val (.int bz), .val (.int (3 : Int32))] [(.ref q)]))
  refine Go.st (fun _ => XS.iloadN X122.here C.hx rfl (hb C.hby d1_5) rfl) ?_
  show Go p e below s n0 _ _ _ (T122.setTop (mkF m 6 #[.val (.ref q), .val (.int bz), .val (.int (3 : Int32))] [(.int bz), (.ref q)]))
  refine Go.st (fun _ => XS.iconst X122.here C.hx rfl (hb C.hby d1_6)) ?_
  show Go p e below s n0 _ _ _ (T122.setTop (mkF m 7 #[.val (.ref q), .val (.int bz), .val (.int (3 : Int32))] [(.int (1 : Int32)), (.int bz), (.ref q)]))
  refine Go.st (fun _ => XS.iadd X122.here C.hx rfl (hb C.hby d1_7) rfl) ?_
  show Go p e below s n0 _ _ _ (T122.setTop (mkF m 8 #[.val (.ref q), .val (.int bz), .val (.int (3 : Int32))] [(.int (bz + (1 : Int32))), (.ref q)]))
  refine Go.newP C X122 (aty := .int) (cap := 8) (wd 9 rfl) d1_8 hnn (by rw [hM]; exact hM8) (by decide) (by decide) (by decide) (fun T123 h123 b123 g123 ge123 X123 E123 A123 => ?_)
  have ne_q_b123 : q ≠ b123 := Nat.ne_of_lt (Nat.lt_of_lt_of_le (E).lt (Nat.le_of_eq g123))
  show Go p e below s n0 _ _ _ (T123.setTop (mkF m 10 #[.val (.ref q), .val (.int bz), .val (.int (3 : Int32))] [(.ref b123), (.ref q)]))
  refine Go.putF C X123 (wd 10 rfl) (Fld.ext E123 Fnewest) (Exa.ext E123 E) (Or.inr ⟨(wd 11 rfl), rfl, rfl⟩) (wd 1 rfl) (ty := (.array .int)) (by decide) rfl rfl gq d1_10 (fun T124 h124 X124 W124 F124 => ?_)
  have Fnode_125 : Fld Z h124 q "com/example/layrd/layrd/layout/BucketQueue" "node" "[I" .null := (Fld.other W124 (Fld.ext E123 Fnode) (Or.inr (slot_ne (Or.inr (C.w (wd 13 rfl))) (Or.inr (C.w (wd 11 rfl))) (by decide) (t := (.array .int)) (t' := (.array .int)) (by decide) (by decide))))
  have Folder_126 : Fld Z h124 q "com/example/layrd/layrd/layout/BucketQueue" "older" "[I" .null := (Fld.other W124 (Fld.ext E123 Folder) (Or.inr (slot_ne (Or.inr (C.w (wd 15 rfl))) (Or.inr (C.w (wd 11 rfl))) (by decide) (t := (.array .int)) (t' := (.array .int)) (by decide) (by decide))))
  have Fentries_127 : Fld Z h124 q "com/example/layrd/layrd/layout/BucketQueue" "entries" "I" (.int (0 : Int32)) := (Fld.other W124 (Fld.ext E123 Fentries) (Or.inr (slot_ne (Or.inl (C.w (wd 26 rfl))) (Or.inr (C.w (wd 11 rfl))) (by decide) (t := .int) (t' := (.array .int)) (by decide) (by decide))))
  have Fkey_128 : Fld Z h124 q "com/example/layrd/layrd/layout/BucketQueue" "key" "I" (.int (0 : Int32)) := (Fld.other W124 (Fld.ext E123 Fkey) (Or.inr (slot_ne (Or.inl (C.w (wd 28 rfl))) (Or.inr (C.w (wd 11 rfl))) (by decide) (t := .int) (t' := (.array .int)) (by decide) (by decide))))
  show Go p e below s n0 _ _ _ (T124.setTop (mkF m 13 #[.val (.ref q), .val (.int bz), .val (.int (3 : Int32))] []))
  refine Go.st (fun _ => XS.aloadN X124.here C.hx rfl (hb C.hby d1_13) rfl rfl) ?_
  show Go p e below s n0 _ _ _ (T124.setTop (mkF m 14 #[.val (.ref q), .val (.int bz), .val (.int (3 : Int32))] [(.ref q)]))
  refine Go.st (fun _ => XS.iloadN X124.here C.hx rfl (hb C.hby d1_14) rfl) ?_
  show Go p e below s n0 _ _ _ (T124.setTop (mkF m 15 #[.val (.ref q), .val (.int bz), .val (.int (3 : Int32))] [(.int (3 : Int32)), (.ref q)]))
  refine Go.newP C X124 (aty := .int) (cap := 3) (wd 9 rfl) d1_15 (by decide) (by decide) (by decide) (by decide) (by decide) (fun T129 h129 b129 g129 ge129 X129 E129 A129 => ?_)
  have ne_q_b129 : q ≠ b129 := Nat.ne_of_lt (Nat.lt_of_lt_of_le ((Exa.wr W124 (Exa.ext E123 E))).lt (Nat.le_of_eq g129))
  have ne_b123_b129 : b123 ≠ b129 := Nat.ne_of_lt (Nat.lt_of_lt_of_le ((A123.other W124 (Ne.symm ne_q_b123))).lt (Nat.le_of_eq g129))
  have A_b129 : AR Z h129 b129 .int [(.int (0 : Int32)), (.int (0 : Int32)), (.int (0 : Int32))] := A129
  have E_130 : Exa Z h129 q "com/example/layrd/layrd/layout/BucketQueue" := (Exa.ext E129 (Exa.wr W124 (Exa.ext E123 E)))
  have A_b123_131 : AR Z h129 b123 .int (List.replicate ((bz + (1 : Int32))).toNatClampNeg (.int (0 : Int32))) := ((A123.other W124 (Ne.symm ne_q_b123)).ext E129)
  show Go p e below s n0 _ _ _ (T129.setTop (mkF m 17 #[.val (.ref q), .val (.int bz), .val (.int (3 : Int32))] [(.ref b129), (.ref q)]))
  refine Go.putF C X129 (wd 12 rfl) (Fld.ext E129 Fnode_125) E_130 (Or.inr ⟨(wd 13 rfl), rfl, rfl⟩) (wd 1 rfl) (ty := (.array .int)) (by decide) rfl rfl gq d1_17 (fun T132 h132 X132 W132 F132 => ?_)
  have Fnewest_133 : Fld Z h132 q "com/example/layrd/layrd/layout/BucketQueue" "newest" "[I" (.ref b123) := (Fld.other W132 (Fld.ext E129 F124) (Or.inr (slot_ne (Or.inr (C.w (wd 11 rfl))) (Or.inr (C.w (wd 13 rfl))) (by decide) (t := (.array .int)) (t' := (.array .int)) (by decide) (by decide))))
  have Folder_134 : Fld Z h132 q "com/example/layrd/layrd/layout/BucketQueue" "older" "[I" .null := (Fld.other W132 (Fld.ext E129 Folder_126) (Or.inr (slot_ne (Or.inr (C.w (wd 15 rfl))) (Or.inr (C.w (wd 13 rfl))) (by decide) (t := (.array .int)) (t' := (.array .int)) (by decide) (by decide))))
  have Fentries_135 : Fld Z h132 q "com/example/layrd/layrd/layout/BucketQueue" "entries" "I" (.int (0 : Int32)) := (Fld.other W132 (Fld.ext E129 Fentries_127) (Or.inr (slot_ne (Or.inl (C.w (wd 26 rfl))) (Or.inr (C.w (wd 13 rfl))) (by decide) (t := .int) (t' := (.array .int)) (by decide) (by decide))))
  have Fkey_136 : Fld Z h132 q "com/example/layrd/layrd/layout/BucketQueue" "key" "I" (.int (0 : Int32)) := (Fld.other W132 (Fld.ext E129 Fkey_128) (Or.inr (slot_ne (Or.inl (C.w (wd 28 rfl))) (Or.inr (C.w (wd 13 rfl))) (by decide) (t := .int) (t' := (.array .int)) (by decide) (by decide))))
  have A_b123_137 : AR Z h132 b123 .int (List.replicate ((bz + (1 : Int32))).toNatClampNeg (.int (0 : Int32))) := (A_b123_131.other W132 (Ne.symm ne_q_b123))
  show Go p e below s n0 _ _ _ (T132.setTop (mkF m 20 #[.val (.ref q), .val (.int bz), .val (.int (3 : Int32))] []))
  refine Go.st (fun _ => XS.aloadN X132.here C.hx rfl (hb C.hby d1_20) rfl rfl) ?_
  show Go p e below s n0 _ _ _ (T132.setTop (mkF m 21 #[.val (.ref q), .val (.int bz), .val (.int (3 : Int32))] [(.ref q)]))
  refine Go.st (fun _ => XS.iloadN X132.here C.hx rfl (hb C.hby d1_21) rfl) ?_
  show Go p e below s n0 _ _ _ (T132.setTop (mkF m 22 #[.val (.ref q), .val (.int bz), .val (.int (3 : Int32))] [(.int (3 : Int32)), (.ref q)]))
  refine Go.newP C X132 (aty := .int) (cap := 3) (wd 9 rfl) d1_22 (by decide) (by decide) (by decide) (by decide) (by decide) (fun T138 h138 b138 g138 ge138 X138 E138 A138 => ?_)
  have ne_q_b138 : q ≠ b138 := Nat.ne_of_lt (Nat.lt_of_lt_of_le ((Exa.wr W132 E_130)).lt (Nat.le_of_eq g138))
  have ne_b123_b138 : b123 ≠ b138 := Nat.ne_of_lt (Nat.lt_of_lt_of_le (A_b123_137).lt (Nat.le_of_eq g138))
  have ne_b129_b138 : b129 ≠ b138 := Nat.ne_of_lt (Nat.lt_of_lt_of_le ((A_b129.other W132 (Ne.symm ne_q_b129))).lt (Nat.le_of_eq g138))
  have A_b138 : AR Z h138 b138 .int [(.int (0 : Int32)), (.int (0 : Int32)), (.int (0 : Int32))] := A138
  have A_b129_139 : AR Z h138 b129 .int [(.int (0 : Int32)), (.int (0 : Int32)), (.int (0 : Int32))] := ((A_b129.other W132 (Ne.symm ne_q_b129)).ext E138)
  show Go p e below s n0 _ _ _ (T138.setTop (mkF m 24 #[.val (.ref q), .val (.int bz), .val (.int (3 : Int32))] [(.ref b138), (.ref q)]))
  refine Go.putF C X138 (wd 14 rfl) (Fld.ext E138 Folder_134) (Exa.ext E138 (Exa.wr W132 E_130)) (Or.inr ⟨(wd 15 rfl), rfl, rfl⟩) (wd 1 rfl) (ty := (.array .int)) (by decide) rfl rfl gq d1_24 (fun T140 h140 X140 W140 F140 => ?_)
  have E_141 : Exa Z h140 q "com/example/layrd/layrd/layout/BucketQueue" := (Exa.wr W140 (Exa.ext E138 (Exa.wr W132 E_130)))
  have Fnewest_142 : Fld Z h140 q "com/example/layrd/layrd/layout/BucketQueue" "newest" "[I" (.ref b123) := (Fld.other W140 (Fld.ext E138 Fnewest_133) (Or.inr (slot_ne (Or.inr (C.w (wd 11 rfl))) (Or.inr (C.w (wd 15 rfl))) (by decide) (t := (.array .int)) (t' := (.array .int)) (by decide) (by decide))))
  have Fnode_143 : Fld Z h140 q "com/example/layrd/layrd/layout/BucketQueue" "node" "[I" (.ref b129) := (Fld.other W140 (Fld.ext E138 F132) (Or.inr (slot_ne (Or.inr (C.w (wd 13 rfl))) (Or.inr (C.w (wd 15 rfl))) (by decide) (t := (.array .int)) (t' := (.array .int)) (by decide) (by decide))))
  have Fentries_144 : Fld Z h140 q "com/example/layrd/layrd/layout/BucketQueue" "entries" "I" (.int (0 : Int32)) := (Fld.other W140 (Fld.ext E138 Fentries_135) (Or.inr (slot_ne (Or.inl (C.w (wd 26 rfl))) (Or.inr (C.w (wd 15 rfl))) (by decide) (t := .int) (t' := (.array .int)) (by decide) (by decide))))
  have Fkey_145 : Fld Z h140 q "com/example/layrd/layrd/layout/BucketQueue" "key" "I" (.int (0 : Int32)) := (Fld.other W140 (Fld.ext E138 Fkey_136) (Or.inr (slot_ne (Or.inl (C.w (wd 28 rfl))) (Or.inr (C.w (wd 15 rfl))) (by decide) (t := .int) (t' := (.array .int)) (by decide) (by decide))))
  have A_b123_146 : AR Z h140 b123 .int (List.replicate ((bz + (1 : Int32))).toNatClampNeg (.int (0 : Int32))) := ((A_b123_137.ext E138).other W140 (Ne.symm ne_q_b123))
  have A_b129_147 : AR Z h140 b129 .int [(.int (0 : Int32)), (.int (0 : Int32)), (.int (0 : Int32))] := (A_b129_139.other W140 (Ne.symm ne_q_b129))
  show Go p e below s n0 _ _ _ (T140.setTop (mkF m 27 #[.val (.ref q), .val (.int bz), .val (.int (3 : Int32))] []))
  refine Go.st (fun _ => XS.aloadN X140.here C.hx rfl (hb C.hby d1_27) rfl rfl) ?_
  show Go p e below s n0 _ _ _ (T140.setTop (mkF m 28 #[.val (.ref q), .val (.int bz), .val (.int (3 : Int32))] [(.ref q)]))
  have hDD : DQ n0 q b123 b129 b138 := ⟨gq, ge123, ge129, ge138, ne_q_b123, ne_q_b129, ne_q_b138, ne_b123_b129, ne_b123_b138, ne_b129_b138⟩
  have hBB : BQ Z h140 q b123 b129 b138 (List.replicate M 0) [0, 0, 0] [0, 0, 0] 0 0 := ⟨E_141, Fnewest_142, Fnode_143, F140, Fentries_144, Fkey_145, (by rw [← hM]; exact rep_iV0 A_b123_146), A_b129_147, (A_b138.other W140 (Ne.symm ne_q_b138))⟩
  refine Go.callV C X140 (W := 0) (argsL := []) (rest := []) (a := q) E_141 (wd 16 rfl) (wd 17 rfl) (wd 19 rfl) (wd 18 rfl) (wd 2 rfl) (wd 20 rfl) (by decide) rfl (con_clear l Z a0 hw n0 h140 X140.size q b123 b129 b138 (List.replicate M 0) [0, 0, 0] [0, 0, 0] 0 0 hDD (by rw [List.length_replicate]; exact hM8) hBB) (by decide) (by decide) rfl (lenOf pd_3 rfl) (Nat.le_of_ble_eq_true rfl) rfl d1_28 (by decide) (by decide) (fun T148 h148 v148 X148 hQ148 => ?_)
  obtain ⟨rfl, BB148⟩ := hQ148
  show Go p e below s n0 _ _ _ (T148.setTop (mkF m 31 #[.val (.ref q), .val (.int bz), .val (.int (3 : Int32))] []))
  exact Go.retV C X148 d1_31 ⟨rfl, b123, b129, b138, hDD, (by rw [List.length_replicate] at BB148; exact BB148)⟩ (by decide) (by decide)
theorem d5_0 : decode prog_57_method_4_code 0 = .ok (.aload_n 0, 1) := by decide +kernel
theorem d5_1 : decode prog_57_method_4_code 1 = .ok (.getfield 13, 3) := by decide +kernel
theorem d5_4 : decode prog_57_method_4_code 4 = .ok (.aload_n 0, 1) := by decide +kernel
theorem d5_5 : decode prog_57_method_4_code 5 = .ok (.getfield 28, 3) := by decide +kernel
theorem d5_8 : decode prog_57_method_4_code 8 = .ok (.iload_n 1, 1) := by decide +kernel
theorem d5_9 : decode prog_57_method_4_code 9 = .ok (.iastore, 1) := by decide +kernel
theorem d5_10 : decode prog_57_method_4_code 10 = .ok (.aload_n 0, 1) := by decide +kernel
theorem d5_11 : decode prog_57_method_4_code 11 = .ok (.getfield 16, 3) := by decide +kernel
theorem d5_14 : decode prog_57_method_4_code 14 = .ok (.aload_n 0, 1) := by decide +kernel
theorem d5_15 : decode prog_57_method_4_code 15 = .ok (.getfield 28, 3) := by decide +kernel
theorem d5_18 : decode prog_57_method_4_code 18 = .ok (.aload_n 0, 1) := by decide +kernel
theorem d5_19 : decode prog_57_method_4_code 19 = .ok (.getfield 7, 3) := by decide +kernel
theorem d5_22 : decode prog_57_method_4_code 22 = .ok (.iload_n 2, 1) := by decide +kernel
theorem d5_23 : decode prog_57_method_4_code 23 = .ok (.iaload, 1) := by decide +kernel
theorem d5_24 : decode prog_57_method_4_code 24 = .ok (.iastore, 1) := by decide +kernel
theorem d5_25 : decode prog_57_method_4_code 25 = .ok (.aload_n 0, 1) := by decide +kernel
theorem d5_26 : decode prog_57_method_4_code 26 = .ok (.getfield 7, 3) := by decide +kernel
theorem d5_29 : decode prog_57_method_4_code 29 = .ok (.iload_n 2, 1) := by decide +kernel
theorem d5_30 : decode prog_57_method_4_code 30 = .ok (.aload_n 0, 1) := by decide +kernel
theorem d5_31 : decode prog_57_method_4_code 31 = .ok (.dup, 1) := by decide +kernel
theorem d5_32 : decode prog_57_method_4_code 32 = .ok (.getfield 28, 3) := by decide +kernel
theorem d5_35 : decode prog_57_method_4_code 35 = .ok (.dup_x1, 1) := by decide +kernel
theorem d5_36 : decode prog_57_method_4_code 36 = .ok (.iconst 1, 1) := by decide +kernel
theorem d5_37 : decode prog_57_method_4_code 37 = .ok (.iadd, 1) := by decide +kernel
theorem d5_38 : decode prog_57_method_4_code 38 = .ok (.putfield 28, 3) := by decide +kernel
theorem d5_41 : decode prog_57_method_4_code 41 = .ok (.iastore, 1) := by decide +kernel
theorem d5_42 : decode prog_57_method_4_code 42 = .ok (.return_, 1) := by decide +kernel
theorem pf_5 : plainFor (⟨"com/example/layrd/layrd/layout/BucketQueue", "put", "(II)V"⟩ : MethodName) = true := plainFor_of_name (by first | (simp [plainName, overriddenIn]; done) | decide +kernel)
theorem pd_5 : parseMethodDescriptor "(II)V" = some ⟨[.int, .int], none⟩ := by decide +kernel
set_option maxRecDepth 65536 in
set_option maxHeartbeats 40000000 in
theorem con_put (l : Launch) (Z : State) (a0 : Array Value) (hw : ∀ d ∈ tables_1, d.before a0 Z = true) (n0 : Nat) (h0 : Heap) (Z0 : n0 ≤ h0.size) (q a1 a2 a3 : Addr) (nw od : List Int) (nd : List Int32) (en : Nat) (ky vv az : Int32) (at' : Nat) (hD : DQ n0 q a1 a2 a3) (hen : en < 3) (h3 : nd.length = 3) (h3o : od.length = 3) (haz : az = at'.toInt32) (hat : at' < nw.length) (hN : nw.length ≤ 8) (hq : BQ Z h0 q a1 a2 a3 nw od nd en.toInt32 ky) :
    Con l Z (⟨"com/example/layrd/layrd/layout/BucketQueue", "put", "(II)V"⟩ : MethodName) prog_57_method_4_code 3 none [] ({ frames := 0, cells := 0, slots := 0, locals := 0 } : Room) n0 #[(.ref q), (.int vv), (.int az)] h0 (fun v h => v = none ∧ BQ Z h q a1 a2 a3 (nw.set at' (en : Int)) (od.set en (nw.getD at' 0)) (nd.set en vv) (en + 1).toInt32 ky) := by
  refine Con.mk pf_5 hw Z0 ?_
  intro p e s m below meth c T0 C X0
  have ef : entryFrame m #[(.ref q), (.int vv), (.int az)] 3 = mkF m 0 #[.val (.ref q), .val (.int vv), .val (.int az)] [] := by first | (simp [entryFrame, mkF, argsToLocals, Value.category]; done) | rfl
  rw [ef]
  subst haz
  obtain ⟨E, Fnewest, Fnode, Folder, Fentries, Fkey, Aa1, Aa2, Aa3⟩ := hq
  obtain ⟨gq, g1, g2, g3, nq1, nq2, nq3, n12, n13, n23⟩ := hD
  show Go p e below s n0 _ _ _ (T0.setTop (mkF m 0 #[.val (.ref q), .val (.int vv), .val (.int at'.toInt32)] []))
  refine Go.st (fun _ => XS.aloadN X0.here C.hx rfl (hb C.hby d5_0) rfl rfl) ?_
  show Go p e below s n0 _ _ _ (T0.setTop (mkF m 1 #[.val (.ref q), .val (.int vv), .val (.int at'.toInt32)] [(.ref q)]))
  refine Go.getF C X0 (wd 12 rfl) Fnode d5_1 (fun T149 X149 => ?_)
  show Go p e below s n0 _ _ _ (T149.setTop (mkF m 4 #[.val (.ref q), .val (.int vv), .val (.int at'.toInt32)] [(.ref a2)]))
  refine Go.st (fun _ => XS.aloadN X149.here C.hx rfl (hb C.hby d5_4) rfl rfl) ?_
  show Go p e below s n0 _ _ _ (T149.setTop (mkF m 5 #[.val (.ref q), .val (.int vv), .val (.int at'.toInt32)] [(.ref q), (.ref a2)]))
  refine Go.getF C X149 (wd 25 rfl) Fentries d5_5 (fun T150 X150 => ?_)
  show Go p e below s n0 _ _ _ (T150.setTop (mkF m 8 #[.val (.ref q), .val (.int vv), .val (.int at'.toInt32)] [(.int en.toInt32), (.ref a2)]))
  refine Go.st (fun _ => XS.iloadN X150.here C.hx rfl (hb C.hby d5_8) rfl) ?_
  show Go p e below s n0 _ _ _ (T150.setTop (mkF m 9 #[.val (.ref q), .val (.int vv), .val (.int at'.toInt32)] [(.int vv), (.int en.toInt32), (.ref a2)]))
  refine Go.iastore C X150 Aa2 (nn32 (by omega)) (by rw [cl32 (by omega), List.length_map]; omega) g2 d5_9 (fun T151 h151 X151 W151 A151 => ?_)
  show Go p e below s n0 _ _ _ (T151.setTop (mkF m 10 #[.val (.ref q), .val (.int vv), .val (.int at'.toInt32)] []))
  refine Go.st (fun _ => XS.aloadN X151.here C.hx rfl (hb C.hby d5_10) rfl rfl) ?_
  show Go p e below s n0 _ _ _ (T151.setTop (mkF m 11 #[.val (.ref q), .val (.int vv), .val (.int at'.toInt32)] [(.ref q)]))
  refine Go.getF C X151 (wd 14 rfl) (Fld.other W151 Folder (Or.inl nq2)) d5_11 (fun T152 X152 => ?_)
  show Go p e below s n0 _ _ _ (T152.setTop (mkF m 14 #[.val (.ref q), .val (.int vv), .val (.int at'.toInt32)] [(.ref a3)]))
  refine Go.st (fun _ => XS.aloadN X152.here C.hx rfl (hb C.hby d5_14) rfl rfl) ?_
  show Go p e below s n0 _ _ _ (T152.setTop (mkF m 15 #[.val (.ref q), .val (.int vv), .val (.int at'.toInt32)] [(.ref q), (.ref a3)]))
  refine Go.getF C X152 (wd 25 rfl) (Fld.other W151 Fentries (Or.inl nq2)) d5_15 (fun T153 X153 => ?_)
  show Go p e below s n0 _ _ _ (T153.setTop (mkF m 18 #[.val (.ref q), .val (.int vv), .val (.int at'.toInt32)] [(.int en.toInt32), (.ref a3)]))
  refine Go.st (fun _ => XS.aloadN X153.here C.hx rfl (hb C.hby d5_18) rfl rfl) ?_
  show Go p e below s n0 _ _ _ (T153.setTop (mkF m 19 #[.val (.ref q), .val (.int vv), .val (.int at'.toInt32)] [(.ref q), (.int en.toInt32), (.ref a3)]))
  refine Go.getF C X153 (wd 10 rfl) (Fld.other W151 Fnewest (Or.inl nq2)) d5_19 (fun T154 X154 => ?_)
  show Go p e below s n0 _ _ _ (T154.setTop (mkF m 22 #[.val (.ref q), .val (.int vv), .val (.int at'.toInt32)] [(.ref a1), (.int en.toInt32), (.ref a3)]))
  refine Go.st (fun _ => XS.iloadN X154.here C.hx rfl (hb C.hby d5_22) rfl) ?_
  show Go p e below s n0 _ _ _ (T154.setTop (mkF m 23 #[.val (.ref q), .val (.int vv), .val (.int at'.toInt32)] [(.int at'.toInt32), (.ref a1), (.int en.toInt32), (.ref a3)]))
  refine Go.iaload C X154 (Aa1.other W151 n12) (nn32 (by omega)) (getN hat (by omega)) d5_23 ?_
  show Go p e below s n0 _ _ _ (T154.setTop (mkF m 24 #[.val (.ref q), .val (.int vv), .val (.int at'.toInt32)] [(.int (Int32.ofInt (nw.getD at' 0))), (.int en.toInt32), (.ref a3)]))
  refine Go.iastore C X154 (Aa3.other W151 (Ne.symm n23)) (nn32 (by omega)) (by rw [cl32 (by omega), List.length_map]; omega) g3 d5_24 (fun T155 h155 X155 W155 A155 => ?_)
  have Fnewest_156 : Fld Z h155 q "com/example/layrd/layrd/layout/BucketQueue" "newest" "[I" (.ref a1) := (Fld.other W155 (Fld.other W151 Fnewest (Or.inl nq2)) (Or.inl nq3))
  have Fnode_157 : Fld Z h155 q "com/example/layrd/layrd/layout/BucketQueue" "node" "[I" (.ref a2) := (Fld.other W155 (Fld.other W151 Fnode (Or.inl nq2)) (Or.inl nq3))
  have Folder_158 : Fld Z h155 q "com/example/layrd/layrd/layout/BucketQueue" "older" "[I" (.ref a3) := (Fld.other W155 (Fld.other W151 Folder (Or.inl nq2)) (Or.inl nq3))
  have Fentries_159 : Fld Z h155 q "com/example/layrd/layrd/layout/BucketQueue" "entries" "I" (.int en.toInt32) := (Fld.other W155 (Fld.other W151 Fentries (Or.inl nq2)) (Or.inl nq3))
  have Fkey_160 : Fld Z h155 q "com/example/layrd/layrd/layout/BucketQueue" "key" "I" (.int ky) := (Fld.other W155 (Fld.other W151 Fkey (Or.inl nq2)) (Or.inl nq3))
  show Go p e below s n0 _ _ _ (T155.setTop (mkF m 25 #[.val (.ref q), .val (.int vv), .val (.int at'.toInt32)] []))
  refine Go.st (fun _ => XS.aloadN X155.here C.hx rfl (hb C.hby d5_25) rfl rfl) ?_
  show Go p e below s n0 _ _ _ (T155.setTop (mkF m 26 #[.val (.ref q), .val (.int vv), .val (.int at'.toInt32)] [(.ref q)]))
  refine Go.getF C X155 (wd 10 rfl) Fnewest_156 d5_26 (fun T161 X161 => ?_)
  show Go p e below s n0 _ _ _ (T161.setTop (mkF m 29 #[.val (.ref q), .val (.int vv), .val (.int at'.toInt32)] [(.ref a1)]))
  refine Go.st (fun _ => XS.iloadN X161.here C.hx rfl (hb C.hby d5_29) rfl) ?_
  show Go p e below s n0 _ _ _ (T161.setTop (mkF m 30 #[.val (.ref q), .val (.int vv), .val (.int at'.toInt32)] [(.int at'.toInt32), (.ref a1)]))
  refine Go.st (fun _ => XS.aloadN X161.here C.hx rfl (hb C.hby d5_30) rfl rfl) ?_
  show Go p e below s n0 _ _ _ (T161.setTop (mkF m 31 #[.val (.ref q), .val (.int vv), .val (.int at'.toInt32)] [(.ref q), (.int at'.toInt32), (.ref a1)]))
  refine Go.st (fun _ => XS.dup X161.here C.hx rfl (hb C.hby d5_31) rfl rfl) ?_
  show Go p e below s n0 _ _ _ (T161.setTop (mkF m 32 #[.val (.ref q), .val (.int vv), .val (.int at'.toInt32)] [(.ref q), (.ref q), (.int at'.toInt32), (.ref a1)]))
  refine Go.getF C X161 (wd 25 rfl) Fentries_159 d5_32 (fun T162 X162 => ?_)
  show Go p e below s n0 _ _ _ (T162.setTop (mkF m 35 #[.val (.ref q), .val (.int vv), .val (.int at'.toInt32)] [(.int en.toInt32), (.ref q), (.int at'.toInt32), (.ref a1)]))
  refine Go.st (fun _ => XS.dupX1 X162.here C.hx rfl (hb C.hby d5_35) rfl rfl rfl) ?_
  show Go p e below s n0 _ _ _ (T162.setTop (mkF m 36 #[.val (.ref q), .val (.int vv), .val (.int at'.toInt32)] [(.int en.toInt32), (.ref q), (.int en.toInt32), (.int at'.toInt32), (.ref a1)]))
  refine Go.st (fun _ => XS.iconst X162.here C.hx rfl (hb C.hby d5_36)) ?_
  show Go p e below s n0 _ _ _ (T162.setTop (mkF m 37 #[.val (.ref q), .val (.int vv), .val (.int at'.toInt32)] [(.int (1 : Int32)), (.int en.toInt32), (.ref q), (.int en.toInt32), (.int at'.toInt32), (.ref a1)]))
  refine Go.st (fun _ => XS.iadd X162.here C.hx rfl (hb C.hby d5_37) rfl) ?_
  show Go p e below s n0 _ _ _ (T162.setTop (mkF m 38 #[.val (.ref q), .val (.int vv), .val (.int at'.toInt32)] [(.int (en.toInt32 + (1 : Int32))), (.ref q), (.int en.toInt32), (.int at'.toInt32), (.ref a1)]))
  refine Go.putF C X162 (wd 25 rfl) Fentries_159 (Exa.wr W155 (Exa.wr W151 E)) (Or.inl (wd 26 rfl)) (wd 1 rfl) (ty := .int) (by decide) rfl rfl gq d5_38 (fun T163 h163 X163 W163 F163 => ?_)
  have E_164 : Exa Z h163 q "com/example/layrd/layrd/layout/BucketQueue" := (Exa.wr W163 (Exa.wr W155 (Exa.wr W151 E)))
  have Fnewest_165 : Fld Z h163 q "com/example/layrd/layrd/layout/BucketQueue" "newest" "[I" (.ref a1) := (Fld.other W163 Fnewest_156 (Or.inr (slot_ne (Or.inr (C.w (wd 11 rfl))) (Or.inl (C.w (wd 26 rfl))) (by decide) (t := (.array .int)) (t' := .int) (by decide) (by decide))))
  have Fnode_166 : Fld Z h163 q "com/example/layrd/layrd/layout/BucketQueue" "node" "[I" (.ref a2) := (Fld.other W163 Fnode_157 (Or.inr (slot_ne (Or.inr (C.w (wd 13 rfl))) (Or.inl (C.w (wd 26 rfl))) (by decide) (t := (.array .int)) (t' := .int) (by decide) (by decide))))
  have Folder_167 : Fld Z h163 q "com/example/layrd/layrd/layout/BucketQueue" "older" "[I" (.ref a3) := (Fld.other W163 Folder_158 (Or.inr (slot_ne (Or.inr (C.w (wd 15 rfl))) (Or.inl (C.w (wd 26 rfl))) (by decide) (t := (.array .int)) (t' := .int) (by decide) (by decide))))
  have Fkey_168 : Fld Z h163 q "com/example/layrd/layrd/layout/BucketQueue" "key" "I" (.int ky) := (Fld.other W163 Fkey_160 (Or.inr (slot_ne (Or.inl (C.w (wd 28 rfl))) (Or.inl (C.w (wd 26 rfl))) (by decide) (t := .int) (t' := .int) (by decide) (by decide))))
  have Aa1_169 : AR Z h163 a1 .int (nw.map iV) := (((Aa1.other W151 n12).other W155 n13).other W163 (Ne.symm nq1))
  have Aa2_170 : AR Z h163 a2 .int ((nd.map Value.int).set (en.toInt32).toNatClampNeg (.int vv)) := ((A151.other W155 n23).other W163 (Ne.symm nq2))
  show Go p e below s n0 _ _ _ (T163.setTop (mkF m 41 #[.val (.ref q), .val (.int vv), .val (.int at'.toInt32)] [(.int en.toInt32), (.int at'.toInt32), (.ref a1)]))
  refine Go.iastore C X163 Aa1_169 (nn32 (by omega)) (by rw [cl32 (by omega), List.length_map]; omega) g1 d5_41 (fun T171 h171 X171 W171 A171 => ?_)
  have Fnewest_172 : Fld Z h171 q "com/example/layrd/layrd/layout/BucketQueue" "newest" "[I" (.ref a1) := (Fld.other W171 Fnewest_165 (Or.inl nq1))
  have Aa3_173 : AR Z h171 a3 .int ((od.map iV).set (en.toInt32).toNatClampNeg (.int (Int32.ofInt (nw.getD at' 0)))) := ((A155.other W163 (Ne.symm nq3)).other W171 (Ne.symm n13))
  show Go p e below s n0 _ _ _ (T171.setTop (mkF m 42 #[.val (.ref q), .val (.int vv), .val (.int at'.toInt32)] []))
  exact Go.retV C X171 d5_42 ⟨rfl, (by unfold BQ; rw [← setI nw (by omega) (en : Int), ← setI od (by omega), ← setV nd (by omega), ← inc32]; exact ⟨(Exa.wr W171 E_164), Fnewest_172, (Fld.other W171 Fnode_166 (Or.inl nq1)), (Fld.other W171 Folder_167 (Or.inl nq1)), (Fld.other W171 F163 (Or.inl nq1)), (Fld.other W171 Fkey_168 (Or.inl nq1)), A171, (Aa2_170.other W171 (Ne.symm n12)), Aa3_173⟩)⟩ (by decide) (by decide)
theorem d7_0 : decode prog_57_method_6_code 0 = .ok (.aload_n 0, 1) := by decide +kernel
theorem d7_1 : decode prog_57_method_6_code 1 = .ok (.getfield 32, 3) := by decide +kernel
theorem d7_4 : decode prog_57_method_6_code 4 = .ok (.ireturn, 1) := by decide +kernel
theorem pf_7 : plainFor (⟨"com/example/layrd/layrd/layout/BucketQueue", "key", "()I"⟩ : MethodName) = true := plainFor_of_name (by first | (simp [plainName, overriddenIn]; done) | decide +kernel)
theorem pd_7 : parseMethodDescriptor "()I" = some ⟨[], some .int⟩ := by decide +kernel
set_option maxRecDepth 65536 in
set_option maxHeartbeats 40000000 in
theorem con_key (l : Launch) (Z : State) (a0 : Array Value) (hw : ∀ d ∈ tables_1, d.before a0 Z = true) (n0 : Nat) (h0 : Heap) (Z0 : n0 ≤ h0.size) (q a1 a2 a3 : Addr) (nw od : List Int) (nd : List Int32) (en ky : Int32) (hq : BQ Z h0 q a1 a2 a3 nw od nd en ky) :
    Con l Z (⟨"com/example/layrd/layrd/layout/BucketQueue", "key", "()I"⟩ : MethodName) prog_57_method_6_code 1 (some .int) [] ({ frames := 0, cells := 0, slots := 0, locals := 0 } : Room) n0 #[(.ref q)] h0 (fun v h => v = some (.int ky) ∧ h = h0) := by
  refine Con.mk pf_7 hw Z0 ?_
  intro p e s m below meth c T0 C X0
  have ef : entryFrame m #[(.ref q)] 1 = mkF m 0 #[.val (.ref q)] [] := by first | (simp [entryFrame, mkF, argsToLocals, Value.category]; done) | rfl
  rw [ef]
  obtain ⟨E, Fnewest, Fnode, Folder, Fentries, Fkey, Aa1, Aa2, Aa3⟩ := hq
  show Go p e below s n0 _ _ _ (T0.setTop (mkF m 0 #[.val (.ref q)] []))
  refine Go.st (fun _ => XS.aloadN X0.here C.hx rfl (hb C.hby d7_0) rfl rfl) ?_
  show Go p e below s n0 _ _ _ (T0.setTop (mkF m 1 #[.val (.ref q)] [(.ref q)]))
  refine Go.getF C X0 (wd 27 rfl) Fkey d7_1 (fun T174 X174 => ?_)
  show Go p e below s n0 _ _ _ (T174.setTop (mkF m 4 #[.val (.ref q)] [(.int ky)]))
  exact Go.retI C X174 d7_4 ⟨rfl, rfl⟩ (by decide) (by decide)
theorem d6_0 : decode prog_57_method_5_code 0 = .ok (.aload_n 0, 1) := by decide +kernel
theorem d6_1 : decode prog_57_method_5_code 1 = .ok (.getfield 32, 3) := by decide +kernel
theorem d6_4 : decode prog_57_method_5_code 4 = .ok (.aload_n 0, 1) := by decide +kernel
theorem d6_5 : decode prog_57_method_5_code 5 = .ok (.getfield 7, 3) := by decide +kernel
theorem d6_8 : decode prog_57_method_5_code 8 = .ok (.arraylength, 1) := by decide +kernel
theorem d6_9 : decode prog_57_method_5_code 9 = .ok (.if_icmp .ge 28, 3) := by decide +kernel
theorem d6_12 : decode prog_57_method_5_code 12 = .ok (.aload_n 0, 1) := by decide +kernel
theorem d6_13 : decode prog_57_method_5_code 13 = .ok (.getfield 7, 3) := by decide +kernel
theorem d6_16 : decode prog_57_method_5_code 16 = .ok (.aload_n 0, 1) := by decide +kernel
theorem d6_17 : decode prog_57_method_5_code 17 = .ok (.getfield 32, 3) := by decide +kernel
theorem d6_20 : decode prog_57_method_5_code 20 = .ok (.iaload, 1) := by decide +kernel
theorem d6_21 : decode prog_57_method_5_code 21 = .ok (.ifCond .ge 16, 3) := by decide +kernel
theorem d6_24 : decode prog_57_method_5_code 24 = .ok (.aload_n 0, 1) := by decide +kernel
theorem d6_25 : decode prog_57_method_5_code 25 = .ok (.dup, 1) := by decide +kernel
theorem d6_26 : decode prog_57_method_5_code 26 = .ok (.getfield 32, 3) := by decide +kernel
theorem d6_29 : decode prog_57_method_5_code 29 = .ok (.iconst 1, 1) := by decide +kernel
theorem d6_30 : decode prog_57_method_5_code 30 = .ok (.iadd, 1) := by decide +kernel
theorem d6_31 : decode prog_57_method_5_code 31 = .ok (.putfield 32, 3) := by decide +kernel
theorem d6_34 : decode prog_57_method_5_code 34 = .ok (.goto (-34), 3) := by decide +kernel
theorem d6_37 : decode prog_57_method_5_code 37 = .ok (.aload_n 0, 1) := by decide +kernel
theorem d6_38 : decode prog_57_method_5_code 38 = .ok (.getfield 32, 3) := by decide +kernel
theorem d6_41 : decode prog_57_method_5_code 41 = .ok (.aload_n 0, 1) := by decide +kernel
theorem d6_42 : decode prog_57_method_5_code 42 = .ok (.getfield 7, 3) := by decide +kernel
theorem d6_45 : decode prog_57_method_5_code 45 = .ok (.arraylength, 1) := by decide +kernel
theorem d6_46 : decode prog_57_method_5_code 46 = .ok (.if_icmp .ne 5, 3) := by decide +kernel
theorem d6_49 : decode prog_57_method_5_code 49 = .ok (.iconst (-1), 1) := by decide +kernel
theorem d6_50 : decode prog_57_method_5_code 50 = .ok (.ireturn, 1) := by decide +kernel
theorem d6_51 : decode prog_57_method_5_code 51 = .ok (.aload_n 0, 1) := by decide +kernel
theorem d6_52 : decode prog_57_method_5_code 52 = .ok (.getfield 7, 3) := by decide +kernel
theorem d6_55 : decode prog_57_method_5_code 55 = .ok (.aload_n 0, 1) := by decide +kernel
theorem d6_56 : decode prog_57_method_5_code 56 = .ok (.getfield 32, 3) := by decide +kernel
theorem d6_59 : decode prog_57_method_5_code 59 = .ok (.iaload, 1) := by decide +kernel
theorem d6_60 : decode prog_57_method_5_code 60 = .ok (.istore_n 1, 1) := by decide +kernel
theorem d6_61 : decode prog_57_method_5_code 61 = .ok (.aload_n 0, 1) := by decide +kernel
theorem d6_62 : decode prog_57_method_5_code 62 = .ok (.getfield 7, 3) := by decide +kernel
theorem d6_65 : decode prog_57_method_5_code 65 = .ok (.aload_n 0, 1) := by decide +kernel
theorem d6_66 : decode prog_57_method_5_code 66 = .ok (.getfield 32, 3) := by decide +kernel
theorem d6_69 : decode prog_57_method_5_code 69 = .ok (.aload_n 0, 1) := by decide +kernel
theorem d6_70 : decode prog_57_method_5_code 70 = .ok (.getfield 16, 3) := by decide +kernel
theorem d6_73 : decode prog_57_method_5_code 73 = .ok (.iload_n 1, 1) := by decide +kernel
theorem d6_74 : decode prog_57_method_5_code 74 = .ok (.iaload, 1) := by decide +kernel
theorem d6_75 : decode prog_57_method_5_code 75 = .ok (.iastore, 1) := by decide +kernel
theorem d6_76 : decode prog_57_method_5_code 76 = .ok (.aload_n 0, 1) := by decide +kernel
theorem d6_77 : decode prog_57_method_5_code 77 = .ok (.getfield 13, 3) := by decide +kernel
theorem d6_80 : decode prog_57_method_5_code 80 = .ok (.iload_n 1, 1) := by decide +kernel
theorem d6_81 : decode prog_57_method_5_code 81 = .ok (.iaload, 1) := by decide +kernel
theorem d6_82 : decode prog_57_method_5_code 82 = .ok (.ireturn, 1) := by decide +kernel
theorem pf_6 : plainFor (⟨"com/example/layrd/layrd/layout/BucketQueue", "take", "()I"⟩ : MethodName) = true := plainFor_of_name (by first | (simp [plainName, overriddenIn]; done) | decide +kernel)
theorem pd_6 : parseMethodDescriptor "()I" = some ⟨[], some .int⟩ := by decide +kernel
set_option maxRecDepth 65536 in
set_option maxHeartbeats 40000000 in
theorem loop_take {p : Program} {l : Launch} {e : Env} {R : Room} {s : State} {m : MethodId} {args : Array Value} {below : List Frame} {meth : Method} {c : Code} {Z : State} {a0 : Array Value} {n0 kc kn cells slots : Nat} {Q : Option Value → Heap → Prop} (C : Ctx p s m meth c Z a0 tables_1 "com/example/layrd/layrd/layout/BucketQueue" "take" prog_57_method_5_code 2 (some .int)) (q a1 a2 a3 : Addr) (nw od : List Int) (nd : List Int32) (en : Int32) (ky0 : Nat) (hD : DQ n0 q a1 a2 a3) (h3 : nd.length = 3) (h3o : od.length = 3) (hN : nw.length ≤ 8) (hV : VN nw) (hkc : cells ≤ kc) (hkn : slots ≤ kn) (hQ : ∀ h, BQ Z h q a1 a2 a3 (tkN nw od ky0) od nd en (tkK nw ky0).toInt32 → Q (some (.int (tkV nw nd ky0))) h) : ∀ (f kk : Nat) (T : State) (h : Heap), nw.length - kk ≤ f → kk ≤ nw.length → scan nw f kk = tkK nw ky0 → St p l e R s m args below meth c n0 T h cells slots → BQ Z h q a1 a2 a3 nw od nd en kk.toInt32 →
    Go p e below s n0 kc kn Q (T.setTop (mkF m 0 #[.val (.ref q), .unset] [])) := by
  obtain ⟨gq, g1, g2, g3, nq1, nq2, nq3, n12, n13, n23⟩ := hD
  have J37 : ∀ (T : State) (h : Heap) (kk : Nat), kk = tkK nw ky0 → kk ≤ nw.length → St p l e R s m args below meth c n0 T h cells slots → BQ Z h q a1 a2 a3 nw od nd en kk.toInt32 → Go p e below s n0 kc kn Q (T.setTop (mkF m 37 #[.val (.ref q), .unset] [])) := by
    intro T h kk hk hle X hq
    obtain ⟨E, Fnewest, Fnode, Folder, Fentries, Fkey, Aa1, Aa2, Aa3⟩ := hq
    show Go p e below s n0 _ _ _ (T.setTop (mkF m 37 #[.val (.ref q), .unset] []))
    refine Go.st (fun _ => XS.aloadN X.here C.hx rfl (hb C.hby d6_37) rfl rfl) ?_
    show Go p e below s n0 _ _ _ (T.setTop (mkF m 38 #[.val (.ref q), .unset] [(.ref q)]))
    refine Go.getF C X (wd 27 rfl) Fkey d6_38 (fun T175 X175 => ?_)
    show Go p e below s n0 _ _ _ (T175.setTop (mkF m 41 #[.val (.ref q), .unset] [(.int kk.toInt32)]))
    refine Go.st (fun _ => XS.aloadN X175.here C.hx rfl (hb C.hby d6_41) rfl rfl) ?_
    show Go p e below s n0 _ _ _ (T175.setTop (mkF m 42 #[.val (.ref q), .unset] [(.ref q), (.int kk.toInt32)]))
    refine Go.getF C X175 (wd 10 rfl) Fnewest d6_42 (fun T176 X176 => ?_)
    show Go p e below s n0 _ _ _ (T176.setTop (mkF m 45 #[.val (.ref q), .unset] [(.ref a1), (.int kk.toInt32)]))
    refine Go.alen C X176 Aa1 (z := nw.length.toInt32) (by rw [List.length_map]) d6_45 ?_
    show Go p e below s n0 _ _ _ (T176.setTop (mkF m 46 #[.val (.ref q), .unset] [(.int nw.length.toInt32), (.int kk.toInt32)]))
    refine Go.icmp_ne C X176 (pc' := 51) d6_46 (by decide) (by decide) (fun hc46_177 => ?_) (fun hc46_177 => ?_)
    · have hlt : kk < nw.length := Nat.lt_of_le_of_ne hle (fun u => hc46_177 (by rw [u]))
      obtain ⟨ee, he1, he2, he3⟩ := take_e hV hN hk hlt
      show Go p e below s n0 _ _ _ (T176.setTop (mkF m 51 #[.val (.ref q), .unset] []))
      refine Go.st (fun _ => XS.aloadN X176.here C.hx rfl (hb C.hby d6_51) rfl rfl) ?_
      show Go p e below s n0 _ _ _ (T176.setTop (mkF m 52 #[.val (.ref q), .unset] [(.ref q)]))
      refine Go.getF C X176 (wd 10 rfl) Fnewest d6_52 (fun T178 X178 => ?_)
      show Go p e below s n0 _ _ _ (T178.setTop (mkF m 55 #[.val (.ref q), .unset] [(.ref a1)]))
      refine Go.st (fun _ => XS.aloadN X178.here C.hx rfl (hb C.hby d6_55) rfl rfl) ?_
      show Go p e below s n0 _ _ _ (T178.setTop (mkF m 56 #[.val (.ref q), .unset] [(.ref q), (.ref a1)]))
      refine Go.getF C X178 (wd 27 rfl) Fkey d6_56 (fun T179 X179 => ?_)
      show Go p e below s n0 _ _ _ (T179.setTop (mkF m 59 #[.val (.ref q), .unset] [(.int kk.toInt32), (.ref a1)]))
      refine Go.iaload C X179 Aa1 (nn32 (by omega)) (getN hlt (by omega)) d6_59 ?_
      show Go p e below s n0 _ _ _ (T179.setTop (mkF m 60 #[.val (.ref q), .unset] [(.int (Int32.ofInt (nw.getD kk 0)))]))
      refine Go.st (fun _ => XS.istoreN X179.here C.hx rfl (hb C.hby d6_60) rfl (l' := #[.val (.ref q), .val (.int (Int32.ofInt (nw.getD kk 0)))]) rfl) ?_
      rw [he2]
      show Go p e below s n0 _ _ _ (T179.setTop (mkF m 61 #[.val (.ref q), .val (.int ee.toInt32)] []))
      refine Go.st (fun _ => XS.aloadN X179.here C.hx rfl (hb C.hby d6_61) rfl rfl) ?_
      show Go p e below s n0 _ _ _ (T179.setTop (mkF m 62 #[.val (.ref q), .val (.int ee.toInt32)] [(.ref q)]))
      refine Go.getF C X179 (wd 10 rfl) Fnewest d6_62 (fun T180 X180 => ?_)
      show Go p e below s n0 _ _ _ (T180.setTop (mkF m 65 #[.val (.ref q), .val (.int ee.toInt32)] [(.ref a1)]))
      refine Go.st (fun _ => XS.aloadN X180.here C.hx rfl (hb C.hby d6_65) rfl rfl) ?_
      show Go p e below s n0 _ _ _ (T180.setTop (mkF m 66 #[.val (.ref q), .val (.int ee.toInt32)] [(.ref q), (.ref a1)]))
      refine Go.getF C X180 (wd 27 rfl) Fkey d6_66 (fun T181 X181 => ?_)
      show Go p e below s n0 _ _ _ (T181.setTop (mkF m 69 #[.val (.ref q), .val (.int ee.toInt32)] [(.int kk.toInt32), (.ref a1)]))
      refine Go.st (fun _ => XS.aloadN X181.here C.hx rfl (hb C.hby d6_69) rfl rfl) ?_
      show Go p e below s n0 _ _ _ (T181.setTop (mkF m 70 #[.val (.ref q), .val (.int ee.toInt32)] [(.ref q), (.int kk.toInt32), (.ref a1)]))
      refine Go.getF C X181 (wd 14 rfl) Folder d6_70 (fun T182 X182 => ?_)
      show Go p e below s n0 _ _ _ (T182.setTop (mkF m 73 #[.val (.ref q), .val (.int ee.toInt32)] [(.ref a3), (.int kk.toInt32), (.ref a1)]))
      refine Go.st (fun _ => XS.iloadN X182.here C.hx rfl (hb C.hby d6_73) rfl) ?_
      show Go p e below s n0 _ _ _ (T182.setTop (mkF m 74 #[.val (.ref q), .val (.int ee.toInt32)] [(.int ee.toInt32), (.ref a3), (.int kk.toInt32), (.ref a1)]))
      refine Go.iaload C X182 Aa3 (nn32 (by omega)) (getN (nw := od) (by omega) (by omega)) d6_74 ?_
      show Go p e below s n0 _ _ _ (T182.setTop (mkF m 75 #[.val (.ref q), .val (.int ee.toInt32)] [(.int (Int32.ofInt (od.getD ee 0))), (.int kk.toInt32), (.ref a1)]))
      refine Go.iastore C X182 Aa1 (nn32 (by omega)) (by rw [cl32 (by omega), List.length_map]; omega) g1 d6_75 (fun T183 h183 X183 W183 A183 => ?_)
      show Go p e below s n0 _ _ _ (T183.setTop (mkF m 76 #[.val (.ref q), .val (.int ee.toInt32)] []))
      refine Go.st (fun _ => XS.aloadN X183.here C.hx rfl (hb C.hby d6_76) rfl rfl) ?_
      show Go p e below s n0 _ _ _ (T183.setTop (mkF m 77 #[.val (.ref q), .val (.int ee.toInt32)] [(.ref q)]))
      refine Go.getF C X183 (wd 12 rfl) (Fld.other W183 Fnode (Or.inl nq1)) d6_77 (fun T184 X184 => ?_)
      show Go p e below s n0 _ _ _ (T184.setTop (mkF m 80 #[.val (.ref q), .val (.int ee.toInt32)] [(.ref a2)]))
      refine Go.st (fun _ => XS.iloadN X184.here C.hx rfl (hb C.hby d6_80) rfl) ?_
      show Go p e below s n0 _ _ _ (T184.setTop (mkF m 81 #[.val (.ref q), .val (.int ee.toInt32)] [(.int ee.toInt32), (.ref a2)]))
      refine Go.iaload C X184 (Aa2.other W183 (Ne.symm n12)) (nn32 (by omega)) (getD3 (by omega) (by omega)) d6_81 ?_
      show Go p e below s n0 _ _ _ (T184.setTop (mkF m 82 #[.val (.ref q), .val (.int ee.toInt32)] [(.int (nd.getD ee 0))]))
      exact Go.retI C X184 d6_82 (by have e1 := tk_hit (od := od) (nd := nd) hk hlt he1; rw [← e1.2]; exact hQ _ (by rw [e1.1, ← hk]; unfold BQ; rw [← setI nw (by omega)]; exact ⟨(Exa.wr W183 E), (Fld.other W183 Fnewest (Or.inl nq1)), (Fld.other W183 Fnode (Or.inl nq1)), (Fld.other W183 Folder (Or.inl nq1)), (Fld.other W183 Fentries (Or.inl nq1)), (Fld.other W183 Fkey (Or.inl nq1)), A183, (Aa2.other W183 (Ne.symm n12)), (Aa3.other W183 (Ne.symm n13))⟩)) hkc hkn
    · show Go p e below s n0 _ _ _ (T176.setTop (mkF m 49 #[.val (.ref q), .unset] []))
      refine Go.st (fun _ => XS.iconst X176.here C.hx rfl (hb C.hby d6_49)) ?_
      show Go p e below s n0 _ _ _ (T176.setTop (mkF m 50 #[.val (.ref q), .unset] [(.int (-1 : Int32))]))
      exact Go.retI C X176 d6_50 (by have u : kk = nw.length := len_eq hN hle hc46_177; have e1 := tk_end (od := od) (nd := nd) hk u; rw [← e1.2]; exact hQ _ (by rw [e1.1, ← hk]; exact ⟨E, Fnewest, Fnode, Folder, Fentries, Fkey, Aa1, Aa2, Aa3⟩)) hkc hkn
  intro f
  induction f with
  | zero =>
    intro kk T h hf hle hr X hq
    obtain rfl : kk = nw.length := by omega
    have hq0 := hq
    obtain ⟨E, Fnewest, Fnode, Folder, Fentries, Fkey, Aa1, Aa2, Aa3⟩ := hq
    show Go p e below s n0 _ _ _ (T.setTop (mkF m 0 #[.val (.ref q), .unset] []))
    refine Go.st (fun _ => XS.aloadN X.here C.hx rfl (hb C.hby d6_0) rfl rfl) ?_
    show Go p e below s n0 _ _ _ (T.setTop (mkF m 1 #[.val (.ref q), .unset] [(.ref q)]))
    refine Go.getF C X (wd 27 rfl) Fkey d6_1 (fun T185 X185 => ?_)
    show Go p e below s n0 _ _ _ (T185.setTop (mkF m 4 #[.val (.ref q), .unset] [(.int nw.length.toInt32)]))
    refine Go.st (fun _ => XS.aloadN X185.here C.hx rfl (hb C.hby d6_4) rfl rfl) ?_
    show Go p e below s n0 _ _ _ (T185.setTop (mkF m 5 #[.val (.ref q), .unset] [(.ref q), (.int nw.length.toInt32)]))
    refine Go.getF C X185 (wd 10 rfl) Fnewest d6_5 (fun T186 X186 => ?_)
    show Go p e below s n0 _ _ _ (T186.setTop (mkF m 8 #[.val (.ref q), .unset] [(.ref a1), (.int nw.length.toInt32)]))
    refine Go.alen C X186 Aa1 (z := nw.length.toInt32) (by rw [List.length_map]) d6_8 ?_
    show Go p e below s n0 _ _ _ (T186.setTop (mkF m 9 #[.val (.ref q), .unset] [(.int nw.length.toInt32), (.int nw.length.toInt32)]))
    refine Go.icmp_ge C X186 (pc' := 37) d6_9 (by decide) (by decide) (fun _ => ?_) (fun hc => by first | exact absurd hc (irr _) | exact absurd (irr _) hc)
    show Go p e below s n0 _ _ _ (T186.setTop (mkF m 37 #[.val (.ref q), .unset] []))
    exact J37 T186 h nw.length hr hle X186 hq0
  | succ f ih =>
    intro kk T h hf hle hr X hq
    have hq0 := hq
    obtain ⟨E, Fnewest, Fnode, Folder, Fentries, Fkey, Aa1, Aa2, Aa3⟩ := hq
    show Go p e below s n0 _ _ _ (T.setTop (mkF m 0 #[.val (.ref q), .unset] []))
    refine Go.st (fun _ => XS.aloadN X.here C.hx rfl (hb C.hby d6_0) rfl rfl) ?_
    show Go p e below s n0 _ _ _ (T.setTop (mkF m 1 #[.val (.ref q), .unset] [(.ref q)]))
    refine Go.getF C X (wd 27 rfl) Fkey d6_1 (fun T188 X188 => ?_)
    show Go p e below s n0 _ _ _ (T188.setTop (mkF m 4 #[.val (.ref q), .unset] [(.int kk.toInt32)]))
    refine Go.st (fun _ => XS.aloadN X188.here C.hx rfl (hb C.hby d6_4) rfl rfl) ?_
    show Go p e below s n0 _ _ _ (T188.setTop (mkF m 5 #[.val (.ref q), .unset] [(.ref q), (.int kk.toInt32)]))
    refine Go.getF C X188 (wd 10 rfl) Fnewest d6_5 (fun T189 X189 => ?_)
    show Go p e below s n0 _ _ _ (T189.setTop (mkF m 8 #[.val (.ref q), .unset] [(.ref a1), (.int kk.toInt32)]))
    refine Go.alen C X189 Aa1 (z := nw.length.toInt32) (by rw [List.length_map]) d6_8 ?_
    show Go p e below s n0 _ _ _ (T189.setTop (mkF m 9 #[.val (.ref q), .unset] [(.int nw.length.toInt32), (.int kk.toInt32)]))
    refine Go.icmp_ge C X189 (pc' := 37) d6_9 (by decide) (by decide) (fun hc9_190 => ?_) (fun hc9_190 => ?_)
    · show Go p e below s n0 _ _ _ (T189.setTop (mkF m 37 #[.val (.ref q), .unset] []))
      exact J37 T189 h kk ((scan_len (fun u => hc9_190 (lt32 u (by omega)))).symm.trans hr) hle X189 hq0
    · have hlt : kk < nw.length := ltN hN hle hc9_190
      show Go p e below s n0 _ _ _ (T189.setTop (mkF m 12 #[.val (.ref q), .unset] []))
      refine Go.st (fun _ => XS.aloadN X189.here C.hx rfl (hb C.hby d6_12) rfl rfl) ?_
      show Go p e below s n0 _ _ _ (T189.setTop (mkF m 13 #[.val (.ref q), .unset] [(.ref q)]))
      refine Go.getF C X189 (wd 10 rfl) Fnewest d6_13 (fun T191 X191 => ?_)
      show Go p e below s n0 _ _ _ (T191.setTop (mkF m 16 #[.val (.ref q), .unset] [(.ref a1)]))
      refine Go.st (fun _ => XS.aloadN X191.here C.hx rfl (hb C.hby d6_16) rfl rfl) ?_
      show Go p e below s n0 _ _ _ (T191.setTop (mkF m 17 #[.val (.ref q), .unset] [(.ref q), (.ref a1)]))
      refine Go.getF C X191 (wd 27 rfl) Fkey d6_17 (fun T192 X192 => ?_)
      show Go p e below s n0 _ _ _ (T192.setTop (mkF m 20 #[.val (.ref q), .unset] [(.int kk.toInt32), (.ref a1)]))
      refine Go.iaload C X192 Aa1 (nn32 (by omega)) (getN hlt (by omega)) d6_20 ?_
      show Go p e below s n0 _ _ _ (T192.setTop (mkF m 21 #[.val (.ref q), .unset] [(.int (Int32.ofInt (nw.getD kk 0)))]))
      refine Go.if_ge C X192 (pc' := 37) d6_21 (by decide) (by decide) (fun hc21_193 => ?_) (fun hc21_193 => ?_)
      · show Go p e below s n0 _ _ _ (T192.setTop (mkF m 37 #[.val (.ref q), .unset] []))
        exact J37 T192 h kk ((scan_stop (fun u => hc21_193 ((negI hV hlt).mpr u))).symm.trans hr) hle X192 hq0
      · show Go p e below s n0 _ _ _ (T192.setTop (mkF m 24 #[.val (.ref q), .unset] []))
        refine Go.st (fun _ => XS.aloadN X192.here C.hx rfl (hb C.hby d6_24) rfl rfl) ?_
        show Go p e below s n0 _ _ _ (T192.setTop (mkF m 25 #[.val (.ref q), .unset] [(.ref q)]))
        refine Go.st (fun _ => XS.dup X192.here C.hx rfl (hb C.hby d6_25) rfl rfl) ?_
        show Go p e below s n0 _ _ _ (T192.setTop (mkF m 26 #[.val (.ref q), .unset] [(.ref q), (.ref q)]))
        refine Go.getF C X192 (wd 27 rfl) Fkey d6_26 (fun T194 X194 => ?_)
        show Go p e below s n0 _ _ _ (T194.setTop (mkF m 29 #[.val (.ref q), .unset] [(.int kk.toInt32), (.ref q)]))
        refine Go.st (fun _ => XS.iconst X194.here C.hx rfl (hb C.hby d6_29)) ?_
        show Go p e below s n0 _ _ _ (T194.setTop (mkF m 30 #[.val (.ref q), .unset] [(.int (1 : Int32)), (.int kk.toInt32), (.ref q)]))
        refine Go.st (fun _ => XS.iadd X194.here C.hx rfl (hb C.hby d6_30) rfl) ?_
        show Go p e below s n0 _ _ _ (T194.setTop (mkF m 31 #[.val (.ref q), .unset] [(.int (kk.toInt32 + (1 : Int32))), (.ref q)]))
        refine Go.putF C X194 (wd 27 rfl) Fkey E (Or.inl (wd 28 rfl)) (wd 1 rfl) (ty := .int) (by decide) rfl rfl gq d6_31 (fun T195 h195 X195 W195 F195 => ?_)
        have Fnewest_196 : Fld Z h195 q "com/example/layrd/layrd/layout/BucketQueue" "newest" "[I" (.ref a1) := (Fld.other W195 Fnewest (Or.inr (slot_ne (Or.inr (C.w (wd 11 rfl))) (Or.inl (C.w (wd 28 rfl))) (by decide) (t := (.array .int)) (t' := .int) (by decide) (by decide))))
        have Fnode_197 : Fld Z h195 q "com/example/layrd/layrd/layout/BucketQueue" "node" "[I" (.ref a2) := (Fld.other W195 Fnode (Or.inr (slot_ne (Or.inr (C.w (wd 13 rfl))) (Or.inl (C.w (wd 28 rfl))) (by decide) (t := (.array .int)) (t' := .int) (by decide) (by decide))))
        have Folder_198 : Fld Z h195 q "com/example/layrd/layrd/layout/BucketQueue" "older" "[I" (.ref a3) := (Fld.other W195 Folder (Or.inr (slot_ne (Or.inr (C.w (wd 15 rfl))) (Or.inl (C.w (wd 28 rfl))) (by decide) (t := (.array .int)) (t' := .int) (by decide) (by decide))))
        have Fentries_199 : Fld Z h195 q "com/example/layrd/layrd/layout/BucketQueue" "entries" "I" (.int en) := (Fld.other W195 Fentries (Or.inr (slot_ne (Or.inl (C.w (wd 26 rfl))) (Or.inl (C.w (wd 28 rfl))) (by decide) (t := .int) (t' := .int) (by decide) (by decide))))
        show Go p e below s n0 _ _ _ (T195.setTop (mkF m 34 #[.val (.ref q), .unset] []))
        refine Go.st (fun _ => XS.goto X195.here C.hx rfl (pc0 := 34) (pc' := 0) rfl (hb C.hby d6_34) (by decide) (by decide)) ?_
        show Go p e below s n0 _ _ _ (T195.setTop (mkF m 0 #[.val (.ref q), .unset] []))
        refine ih (kk + 1) T195 h195 (by omega) (by omega) ((scan_on hlt ((negI hV hlt).mp hc21_193)).symm.trans hr) X195 ?_
        rw [← inc32]
        exact ⟨(Exa.wr W195 E), Fnewest_196, Fnode_197, Folder_198, Fentries_199, F195, (Aa1.other W195 (Ne.symm nq1)), (Aa2.other W195 (Ne.symm nq2)), (Aa3.other W195 (Ne.symm nq3))⟩
set_option maxRecDepth 65536 in
set_option maxHeartbeats 40000000 in
theorem con_take (l : Launch) (Z : State) (a0 : Array Value) (hw : ∀ d ∈ tables_1, d.before a0 Z = true) (n0 : Nat) (h0 : Heap) (Z0 : n0 ≤ h0.size) (q a1 a2 a3 : Addr) (nw od : List Int) (nd : List Int32) (en : Int32) (kz : Int32) (ky : Nat) (hD : DQ n0 q a1 a2 a3) (h3 : nd.length = 3) (h3o : od.length = 3) (hN : nw.length ≤ 8) (hV : VN nw) (hkz : kz = ky.toInt32) (hle : ky ≤ nw.length) (hq : BQ Z h0 q a1 a2 a3 nw od nd en kz) :
    Con l Z (⟨"com/example/layrd/layrd/layout/BucketQueue", "take", "()I"⟩ : MethodName) prog_57_method_5_code 2 (some .int) [] ({ frames := 0, cells := 0, slots := 0, locals := 0 } : Room) n0 #[(.ref q)] h0 (fun v h => v = some (.int (tkV nw nd ky)) ∧ BQ Z h q a1 a2 a3 (tkN nw od ky) od nd en (tkK nw ky).toInt32) := by
  refine Con.mk pf_6 hw Z0 ?_
  intro p e s m below meth c T0 C X0
  have ef : entryFrame m #[(.ref q)] 2 = mkF m 0 #[.val (.ref q), .unset] [] := by first | (simp [entryFrame, mkF, argsToLocals, Value.category]; done) | rfl
  rw [ef]
  subst hkz
  exact loop_take C q a1 a2 a3 nw od nd en ky hD h3 h3o hN hV (by decide) (by decide) (fun h u => ⟨rfl, u⟩) 9 ky T0 h0 (by omega) hle rfl X0 hq
theorem d8_0 : decode jdk_29_method_69_code 0 = .ok (.iload_n 0, 1) := by decide +kernel
theorem d8_1 : decode jdk_29_method_69_code 1 = .ok (.iload_n 1, 1) := by decide +kernel
theorem d8_2 : decode jdk_29_method_69_code 2 = .ok (.if_icmp .gt 7, 3) := by decide +kernel
theorem d8_5 : decode jdk_29_method_69_code 5 = .ok (.iload_n 0, 1) := by decide +kernel
theorem d8_6 : decode jdk_29_method_69_code 6 = .ok (.goto 4, 3) := by decide +kernel
theorem d8_9 : decode jdk_29_method_69_code 9 = .ok (.iload_n 1, 1) := by decide +kernel
theorem d8_10 : decode jdk_29_method_69_code 10 = .ok (.ireturn, 1) := by decide +kernel
theorem pf_8 : plainFor (⟨"java/lang/Math", "min", "(II)I"⟩ : MethodName) = true := by decide +kernel
theorem pd_8 : parseMethodDescriptor "(II)I" = some ⟨[.int, .int], some .int⟩ := by decide +kernel
def mnF (x y : Int32) : Int32 := if y < x then y else x
set_option maxRecDepth 65536 in
set_option maxHeartbeats 40000000 in
theorem con_min (l : Launch) (Z : State) (a0 : Array Value) (hw : ∀ d ∈ tables_1, d.before a0 Z = true) (n0 : Nat) (h0 : Heap) (Z0 : n0 ≤ h0.size) (x y : Int32)  :
    Con l Z (⟨"java/lang/Math", "min", "(II)I"⟩ : MethodName) jdk_29_method_69_code 2 (some .int) [] ({ frames := 0, cells := 0, slots := 0, locals := 0 } : Room) n0 #[(.int x), (.int y)] h0 (fun v h => v = some (.int (mnF x y)) ∧ h = h0) := by
  refine Con.mk pf_8 hw Z0 ?_
  intro p e s m below meth c T0 C X0
  have ef : entryFrame m #[(.int x), (.int y)] 2 = mkF m 0 #[.val (.int x), .val (.int y)] [] := by first | (simp [entryFrame, mkF, argsToLocals, Value.category]; done) | rfl
  rw [ef]
  show Go p e below s n0 _ _ _ (T0.setTop (mkF m 0 #[.val (.int x), .val (.int y)] []))
  refine Go.st (fun _ => XS.iloadN X0.here C.hx rfl (hb C.hby d8_0) rfl) ?_
  show Go p e below s n0 _ _ _ (T0.setTop (mkF m 1 #[.val (.int x), .val (.int y)] [(.int x)]))
  refine Go.st (fun _ => XS.iloadN X0.here C.hx rfl (hb C.hby d8_1) rfl) ?_
  show Go p e below s n0 _ _ _ (T0.setTop (mkF m 2 #[.val (.int x), .val (.int y)] [(.int y), (.int x)]))
  refine Go.icmp_gt C X0 (pc' := 9) d8_2 (by decide) (by decide) (fun hc2_200 => ?_) (fun hc2_200 => ?_)
  · show Go p e below s n0 _ _ _ (T0.setTop (mkF m 9 #[.val (.int x), .val (.int y)] []))
    refine Go.st (fun _ => XS.iloadN X0.here C.hx rfl (hb C.hby d8_9) rfl) ?_
    show Go p e below s n0 _ _ _ (T0.setTop (mkF m 10 #[.val (.int x), .val (.int y)] [(.int y)]))
    exact Go.retI C X0 d8_10 ⟨by simp [mnF, hc2_200], rfl⟩ (by decide) (by decide)
  · show Go p e below s n0 _ _ _ (T0.setTop (mkF m 5 #[.val (.int x), .val (.int y)] []))
    refine Go.st (fun _ => XS.iloadN X0.here C.hx rfl (hb C.hby d8_5) rfl) ?_
    show Go p e below s n0 _ _ _ (T0.setTop (mkF m 6 #[.val (.int x), .val (.int y)] [(.int x)]))
    refine Go.st (fun _ => XS.goto X0.here C.hx rfl (pc0 := 6) (pc' := 10) rfl (hb C.hby d8_6) (by decide) (by decide)) ?_
    show Go p e below s n0 _ _ _ (T0.setTop (mkF m 10 #[.val (.int x), .val (.int y)] [(.int x)]))
    exact Go.retI C X0 d8_10 ⟨by simp [mnF, hc2_200], rfl⟩ (by decide) (by decide)
theorem d9_0 : decode method_2_code 0 = .ok (.iload 5, 2) := by decide +kernel
theorem d9_2 : decode method_2_code 2 = .ok (.iload 7, 2) := by decide +kernel
theorem d9_4 : decode method_2_code 4 = .ok (.if_icmp .ge 33, 3) := by decide +kernel
theorem d9_7 : decode method_2_code 7 = .ok (.iload_n 0, 1) := by decide +kernel
theorem d9_8 : decode method_2_code 8 = .ok (.iload 4, 2) := by decide +kernel
theorem d9_10 : decode method_2_code 10 = .ok (.if_icmp .ne 25, 3) := by decide +kernel
theorem d9_13 : decode method_2_code 13 = .ok (.iload_n 1, 1) := by decide +kernel
theorem d9_14 : decode method_2_code 14 = .ok (.iload 5, 2) := by decide +kernel
theorem d9_16 : decode method_2_code 16 = .ok (.if_icmp .ne 19, 3) := by decide +kernel
theorem d9_19 : decode method_2_code 19 = .ok (.iload_n 2, 1) := by decide +kernel
theorem d9_20 : decode method_2_code 20 = .ok (.iload 6, 2) := by decide +kernel
theorem d9_22 : decode method_2_code 22 = .ok (.if_icmp .ne 13, 3) := by decide +kernel
theorem d9_25 : decode method_2_code 25 = .ok (.iload_n 3, 1) := by decide +kernel
theorem d9_26 : decode method_2_code 26 = .ok (.iload 7, 2) := by decide +kernel
theorem d9_28 : decode method_2_code 28 = .ok (.if_icmp .ne 7, 3) := by decide +kernel
theorem d9_31 : decode method_2_code 31 = .ok (.iconst 1, 1) := by decide +kernel
theorem d9_32 : decode method_2_code 32 = .ok (.goto 4, 3) := by decide +kernel
theorem d9_35 : decode method_2_code 35 = .ok (.iconst 0, 1) := by decide +kernel
theorem d9_36 : decode method_2_code 36 = .ok (.ireturn, 1) := by decide +kernel
theorem d9_37 : decode method_2_code 37 = .ok (.iload 7, 2) := by decide +kernel
theorem d9_39 : decode method_2_code 39 = .ok (.iload 5, 2) := by decide +kernel
theorem d9_41 : decode method_2_code 41 = .ok (.if_icmp .ge 33, 3) := by decide +kernel
theorem d9_44 : decode method_2_code 44 = .ok (.iload_n 0, 1) := by decide +kernel
theorem d9_45 : decode method_2_code 45 = .ok (.iload 6, 2) := by decide +kernel
theorem d9_47 : decode method_2_code 47 = .ok (.if_icmp .ne 25, 3) := by decide +kernel
theorem d9_50 : decode method_2_code 50 = .ok (.iload_n 1, 1) := by decide +kernel
theorem d9_51 : decode method_2_code 51 = .ok (.iload 7, 2) := by decide +kernel
theorem d9_53 : decode method_2_code 53 = .ok (.if_icmp .ne 19, 3) := by decide +kernel
theorem d9_56 : decode method_2_code 56 = .ok (.iload_n 2, 1) := by decide +kernel
theorem d9_57 : decode method_2_code 57 = .ok (.iload 4, 2) := by decide +kernel
theorem d9_59 : decode method_2_code 59 = .ok (.if_icmp .ne 13, 3) := by decide +kernel
theorem d9_62 : decode method_2_code 62 = .ok (.iload_n 3, 1) := by decide +kernel
theorem d9_63 : decode method_2_code 63 = .ok (.iload 5, 2) := by decide +kernel
theorem d9_65 : decode method_2_code 65 = .ok (.if_icmp .ne 7, 3) := by decide +kernel
theorem d9_68 : decode method_2_code 68 = .ok (.iconst 1, 1) := by decide +kernel
theorem d9_69 : decode method_2_code 69 = .ok (.goto 4, 3) := by decide +kernel
theorem d9_72 : decode method_2_code 72 = .ok (.iconst 0, 1) := by decide +kernel
theorem d9_73 : decode method_2_code 73 = .ok (.ireturn, 1) := by decide +kernel
theorem d9_74 : decode method_2_code 74 = .ok (.iload_n 1, 1) := by decide +kernel
theorem d9_75 : decode method_2_code 75 = .ok (.iload 5, 2) := by decide +kernel
theorem d9_77 : decode method_2_code 77 = .ok (.if_icmp .ne 37, 3) := by decide +kernel
theorem d9_80 : decode method_2_code 80 = .ok (.iload_n 3, 1) := by decide +kernel
theorem d9_81 : decode method_2_code 81 = .ok (.iload 5, 2) := by decide +kernel
theorem d9_83 : decode method_2_code 83 = .ok (.if_icmp .ne 31, 3) := by decide +kernel
theorem d9_86 : decode method_2_code 86 = .ok (.iload_n 0, 1) := by decide +kernel
theorem d9_87 : decode method_2_code 87 = .ok (.iload 4, 2) := by decide +kernel
theorem d9_89 : decode method_2_code 89 = .ok (.if_icmp .ne 9, 3) := by decide +kernel
theorem d9_92 : decode method_2_code 92 = .ok (.iload_n 2, 1) := by decide +kernel
theorem d9_93 : decode method_2_code 93 = .ok (.iload 6, 2) := by decide +kernel
theorem d9_95 : decode method_2_code 95 = .ok (.if_icmp .eq 15, 3) := by decide +kernel
theorem d9_98 : decode method_2_code 98 = .ok (.iload_n 0, 1) := by decide +kernel
theorem d9_99 : decode method_2_code 99 = .ok (.iload 6, 2) := by decide +kernel
theorem d9_101 : decode method_2_code 101 = .ok (.if_icmp .ne 13, 3) := by decide +kernel
theorem d9_104 : decode method_2_code 104 = .ok (.iload_n 2, 1) := by decide +kernel
theorem d9_105 : decode method_2_code 105 = .ok (.iload 4, 2) := by decide +kernel
theorem d9_107 : decode method_2_code 107 = .ok (.if_icmp .ne 7, 3) := by decide +kernel
theorem d9_110 : decode method_2_code 110 = .ok (.iconst 1, 1) := by decide +kernel
theorem d9_111 : decode method_2_code 111 = .ok (.goto 4, 3) := by decide +kernel
theorem d9_114 : decode method_2_code 114 = .ok (.iconst 0, 1) := by decide +kernel
theorem d9_115 : decode method_2_code 115 = .ok (.ireturn, 1) := by decide +kernel
theorem pf_9 : plainFor (⟨"com/example/layrd/layrd/layout/BucketQueuePutPinLaw", "pairOk", "(IIIIIIII)Z"⟩ : MethodName) = true := plainFor_of_name (by first | (simp [plainName, overriddenIn]; done) | decide +kernel)
theorem pd_9 : parseMethodDescriptor "(IIIIIIII)Z" = some ⟨[.int, .int, .int, .int, .int, .int, .int, .int], some .boolean⟩ := by decide +kernel
def pairF (x cx y cy a ka b kb : Int32) : Int32 := if ka < kb then (if x = a ∧ cx = ka ∧ y = b ∧ cy = kb then 1 else 0) else if kb < ka then (if x = b ∧ cx = kb ∧ y = a ∧ cy = ka then 1 else 0) else (if cx = ka ∧ cy = ka ∧ ((x = a ∧ y = b) ∨ (x = b ∧ y = a)) then 1 else 0)
set_option maxRecDepth 65536 in
set_option maxHeartbeats 40000000 in
theorem con_pair (l : Launch) (Z : State) (a0 : Array Value) (hw : ∀ d ∈ tables_1, d.before a0 Z = true) (n0 : Nat) (h0 : Heap) (Z0 : n0 ≤ h0.size) (x cx y cy a ka b' kb : Int32)  :
    Con l Z (⟨"com/example/layrd/layrd/layout/BucketQueuePutPinLaw", "pairOk", "(IIIIIIII)Z"⟩ : MethodName) method_2_code 8 (some .boolean) [] ({ frames := 0, cells := 0, slots := 0, locals := 0 } : Room) n0 #[(.int x), (.int cx), (.int y), (.int cy), (.int a), (.int ka), (.int b'), (.int kb)] h0 (fun v h => v = some (.int (pairF x cx y cy a ka b' kb)) ∧ h = h0) := by
  refine Con.mk pf_9 hw Z0 ?_
  intro p e s m below meth c T0 C X0
  have ef : entryFrame m #[(.int x), (.int cx), (.int y), (.int cy), (.int a), (.int ka), (.int b'), (.int kb)] 8 = mkF m 0 #[.val (.int x), .val (.int cx), .val (.int y), .val (.int cy), .val (.int a), .val (.int ka), .val (.int b'), .val (.int kb)] [] := by first | (simp [entryFrame, mkF, argsToLocals, Value.category]; done) | rfl
  rw [ef]
  show Go p e below s n0 _ _ _ (T0.setTop (mkF m 0 #[.val (.int x), .val (.int cx), .val (.int y), .val (.int cy), .val (.int a), .val (.int ka), .val (.int b'), .val (.int kb)] []))
  refine Go.st (fun _ => XS.iload X0.here C.hx rfl (hb C.hby d9_0) rfl) ?_
  show Go p e below s n0 _ _ _ (T0.setTop (mkF m 2 #[.val (.int x), .val (.int cx), .val (.int y), .val (.int cy), .val (.int a), .val (.int ka), .val (.int b'), .val (.int kb)] [(.int ka)]))
  refine Go.st (fun _ => XS.iload X0.here C.hx rfl (hb C.hby d9_2) rfl) ?_
  show Go p e below s n0 _ _ _ (T0.setTop (mkF m 4 #[.val (.int x), .val (.int cx), .val (.int y), .val (.int cy), .val (.int a), .val (.int ka), .val (.int b'), .val (.int kb)] [(.int kb), (.int ka)]))
  refine Go.icmp_ge C X0 (pc' := 37) d9_4 (by decide) (by decide) (fun hc4_201 => ?_) (fun hc4_201 => ?_)
  · show Go p e below s n0 _ _ _ (T0.setTop (mkF m 37 #[.val (.int x), .val (.int cx), .val (.int y), .val (.int cy), .val (.int a), .val (.int ka), .val (.int b'), .val (.int kb)] []))
    refine Go.st (fun _ => XS.iload X0.here C.hx rfl (hb C.hby d9_37) rfl) ?_
    show Go p e below s n0 _ _ _ (T0.setTop (mkF m 39 #[.val (.int x), .val (.int cx), .val (.int y), .val (.int cy), .val (.int a), .val (.int ka), .val (.int b'), .val (.int kb)] [(.int kb)]))
    refine Go.st (fun _ => XS.iload X0.here C.hx rfl (hb C.hby d9_39) rfl) ?_
    show Go p e below s n0 _ _ _ (T0.setTop (mkF m 41 #[.val (.int x), .val (.int cx), .val (.int y), .val (.int cy), .val (.int a), .val (.int ka), .val (.int b'), .val (.int kb)] [(.int ka), (.int kb)]))
    refine Go.icmp_ge C X0 (pc' := 74) d9_41 (by decide) (by decide) (fun hc41_202 => ?_) (fun hc41_202 => ?_)
    · show Go p e below s n0 _ _ _ (T0.setTop (mkF m 74 #[.val (.int x), .val (.int cx), .val (.int y), .val (.int cy), .val (.int a), .val (.int ka), .val (.int b'), .val (.int kb)] []))
      refine Go.st (fun _ => XS.iloadN X0.here C.hx rfl (hb C.hby d9_74) rfl) ?_
      show Go p e below s n0 _ _ _ (T0.setTop (mkF m 75 #[.val (.int x), .val (.int cx), .val (.int y), .val (.int cy), .val (.int a), .val (.int ka), .val (.int b'), .val (.int kb)] [(.int cx)]))
      refine Go.st (fun _ => XS.iload X0.here C.hx rfl (hb C.hby d9_75) rfl) ?_
      show Go p e below s n0 _ _ _ (T0.setTop (mkF m 77 #[.val (.int x), .val (.int cx), .val (.int y), .val (.int cy), .val (.int a), .val (.int ka), .val (.int b'), .val (.int kb)] [(.int ka), (.int cx)]))
      refine Go.icmp_ne C X0 (pc' := 114) d9_77 (by decide) (by decide) (fun hc77_203 => ?_) (fun hc77_203 => ?_)
      · show Go p e below s n0 _ _ _ (T0.setTop (mkF m 114 #[.val (.int x), .val (.int cx), .val (.int y), .val (.int cy), .val (.int a), .val (.int ka), .val (.int b'), .val (.int kb)] []))
        refine Go.st (fun _ => XS.iconst X0.here C.hx rfl (hb C.hby d9_114)) ?_
        show Go p e below s n0 _ _ _ (T0.setTop (mkF m 115 #[.val (.int x), .val (.int cx), .val (.int y), .val (.int cy), .val (.int a), .val (.int ka), .val (.int b'), .val (.int kb)] [(.int (0 : Int32))]))
        exact Go.retZ C X0 (by decide) d9_115 ⟨by unfold pairF; rw [if_neg hc4_201, if_neg hc41_202]; rw [if_neg (by rintro ⟨u1, u2, ⟨u3, u4⟩ | ⟨u3, u4⟩⟩ <;> contradiction)], rfl⟩ (by decide) (by decide)
      · show Go p e below s n0 _ _ _ (T0.setTop (mkF m 80 #[.val (.int x), .val (.int cx), .val (.int y), .val (.int cy), .val (.int a), .val (.int ka), .val (.int b'), .val (.int kb)] []))
        refine Go.st (fun _ => XS.iloadN X0.here C.hx rfl (hb C.hby d9_80) rfl) ?_
        show Go p e below s n0 _ _ _ (T0.setTop (mkF m 81 #[.val (.int x), .val (.int cx), .val (.int y), .val (.int cy), .val (.int a), .val (.int ka), .val (.int b'), .val (.int kb)] [(.int cy)]))
        refine Go.st (fun _ => XS.iload X0.here C.hx rfl (hb C.hby d9_81) rfl) ?_
        show Go p e below s n0 _ _ _ (T0.setTop (mkF m 83 #[.val (.int x), .val (.int cx), .val (.int y), .val (.int cy), .val (.int a), .val (.int ka), .val (.int b'), .val (.int kb)] [(.int ka), (.int cy)]))
        refine Go.icmp_ne C X0 (pc' := 114) d9_83 (by decide) (by decide) (fun hc83_204 => ?_) (fun hc83_204 => ?_)
        · show Go p e below s n0 _ _ _ (T0.setTop (mkF m 114 #[.val (.int x), .val (.int cx), .val (.int y), .val (.int cy), .val (.int a), .val (.int ka), .val (.int b'), .val (.int kb)] []))
          refine Go.st (fun _ => XS.iconst X0.here C.hx rfl (hb C.hby d9_114)) ?_
          show Go p e below s n0 _ _ _ (T0.setTop (mkF m 115 #[.val (.int x), .val (.int cx), .val (.int y), .val (.int cy), .val (.int a), .val (.int ka), .val (.int b'), .val (.int kb)] [(.int (0 : Int32))]))
          exact Go.retZ C X0 (by decide) d9_115 ⟨by unfold pairF; rw [if_neg hc4_201, if_neg hc41_202]; rw [if_neg (by rintro ⟨u1, u2, ⟨u3, u4⟩ | ⟨u3, u4⟩⟩ <;> contradiction)], rfl⟩ (by decide) (by decide)
        · show Go p e below s n0 _ _ _ (T0.setTop (mkF m 86 #[.val (.int x), .val (.int cx), .val (.int y), .val (.int cy), .val (.int a), .val (.int ka), .val (.int b'), .val (.int kb)] []))
          refine Go.st (fun _ => XS.iloadN X0.here C.hx rfl (hb C.hby d9_86) rfl) ?_
          show Go p e below s n0 _ _ _ (T0.setTop (mkF m 87 #[.val (.int x), .val (.int cx), .val (.int y), .val (.int cy), .val (.int a), .val (.int ka), .val (.int b'), .val (.int kb)] [(.int x)]))
          refine Go.st (fun _ => XS.iload X0.here C.hx rfl (hb C.hby d9_87) rfl) ?_
          show Go p e below s n0 _ _ _ (T0.setTop (mkF m 89 #[.val (.int x), .val (.int cx), .val (.int y), .val (.int cy), .val (.int a), .val (.int ka), .val (.int b'), .val (.int kb)] [(.int a), (.int x)]))
          refine Go.icmp_ne C X0 (pc' := 98) d9_89 (by decide) (by decide) (fun hc89_205 => ?_) (fun hc89_205 => ?_)
          · show Go p e below s n0 _ _ _ (T0.setTop (mkF m 98 #[.val (.int x), .val (.int cx), .val (.int y), .val (.int cy), .val (.int a), .val (.int ka), .val (.int b'), .val (.int kb)] []))
            refine Go.st (fun _ => XS.iloadN X0.here C.hx rfl (hb C.hby d9_98) rfl) ?_
            show Go p e below s n0 _ _ _ (T0.setTop (mkF m 99 #[.val (.int x), .val (.int cx), .val (.int y), .val (.int cy), .val (.int a), .val (.int ka), .val (.int b'), .val (.int kb)] [(.int x)]))
            refine Go.st (fun _ => XS.iload X0.here C.hx rfl (hb C.hby d9_99) rfl) ?_
            show Go p e below s n0 _ _ _ (T0.setTop (mkF m 101 #[.val (.int x), .val (.int cx), .val (.int y), .val (.int cy), .val (.int a), .val (.int ka), .val (.int b'), .val (.int kb)] [(.int b'), (.int x)]))
            refine Go.icmp_ne C X0 (pc' := 114) d9_101 (by decide) (by decide) (fun hc101_206 => ?_) (fun hc101_206 => ?_)
            · show Go p e below s n0 _ _ _ (T0.setTop (mkF m 114 #[.val (.int x), .val (.int cx), .val (.int y), .val (.int cy), .val (.int a), .val (.int ka), .val (.int b'), .val (.int kb)] []))
              refine Go.st (fun _ => XS.iconst X0.here C.hx rfl (hb C.hby d9_114)) ?_
              show Go p e below s n0 _ _ _ (T0.setTop (mkF m 115 #[.val (.int x), .val (.int cx), .val (.int y), .val (.int cy), .val (.int a), .val (.int ka), .val (.int b'), .val (.int kb)] [(.int (0 : Int32))]))
              exact Go.retZ C X0 (by decide) d9_115 ⟨by unfold pairF; rw [if_neg hc4_201, if_neg hc41_202]; rw [if_neg (by rintro ⟨u1, u2, ⟨u3, u4⟩ | ⟨u3, u4⟩⟩ <;> contradiction)], rfl⟩ (by decide) (by decide)
            · show Go p e below s n0 _ _ _ (T0.setTop (mkF m 104 #[.val (.int x), .val (.int cx), .val (.int y), .val (.int cy), .val (.int a), .val (.int ka), .val (.int b'), .val (.int kb)] []))
              refine Go.st (fun _ => XS.iloadN X0.here C.hx rfl (hb C.hby d9_104) rfl) ?_
              show Go p e below s n0 _ _ _ (T0.setTop (mkF m 105 #[.val (.int x), .val (.int cx), .val (.int y), .val (.int cy), .val (.int a), .val (.int ka), .val (.int b'), .val (.int kb)] [(.int y)]))
              refine Go.st (fun _ => XS.iload X0.here C.hx rfl (hb C.hby d9_105) rfl) ?_
              show Go p e below s n0 _ _ _ (T0.setTop (mkF m 107 #[.val (.int x), .val (.int cx), .val (.int y), .val (.int cy), .val (.int a), .val (.int ka), .val (.int b'), .val (.int kb)] [(.int a), (.int y)]))
              refine Go.icmp_ne C X0 (pc' := 114) d9_107 (by decide) (by decide) (fun hc107_207 => ?_) (fun hc107_207 => ?_)
              · show Go p e below s n0 _ _ _ (T0.setTop (mkF m 114 #[.val (.int x), .val (.int cx), .val (.int y), .val (.int cy), .val (.int a), .val (.int ka), .val (.int b'), .val (.int kb)] []))
                refine Go.st (fun _ => XS.iconst X0.here C.hx rfl (hb C.hby d9_114)) ?_
                show Go p e below s n0 _ _ _ (T0.setTop (mkF m 115 #[.val (.int x), .val (.int cx), .val (.int y), .val (.int cy), .val (.int a), .val (.int ka), .val (.int b'), .val (.int kb)] [(.int (0 : Int32))]))
                exact Go.retZ C X0 (by decide) d9_115 ⟨by unfold pairF; rw [if_neg hc4_201, if_neg hc41_202]; rw [if_neg (by rintro ⟨u1, u2, ⟨u3, u4⟩ | ⟨u3, u4⟩⟩ <;> contradiction)], rfl⟩ (by decide) (by decide)
              · show Go p e below s n0 _ _ _ (T0.setTop (mkF m 110 #[.val (.int x), .val (.int cx), .val (.int y), .val (.int cy), .val (.int a), .val (.int ka), .val (.int b'), .val (.int kb)] []))
                refine Go.st (fun _ => XS.iconst X0.here C.hx rfl (hb C.hby d9_110)) ?_
                show Go p e below s n0 _ _ _ (T0.setTop (mkF m 111 #[.val (.int x), .val (.int cx), .val (.int y), .val (.int cy), .val (.int a), .val (.int ka), .val (.int b'), .val (.int kb)] [(.int (1 : Int32))]))
                refine Go.st (fun _ => XS.goto X0.here C.hx rfl (pc0 := 111) (pc' := 115) rfl (hb C.hby d9_111) (by decide) (by decide)) ?_
                show Go p e below s n0 _ _ _ (T0.setTop (mkF m 115 #[.val (.int x), .val (.int cx), .val (.int y), .val (.int cy), .val (.int a), .val (.int ka), .val (.int b'), .val (.int kb)] [(.int (1 : Int32))]))
                exact Go.retZ C X0 (by decide) d9_115 ⟨by unfold pairF; rw [if_neg hc4_201, if_neg hc41_202]; rw [if_pos (by first | exact ⟨by assumption, by assumption, Or.inl ⟨by assumption, by assumption⟩⟩ | exact ⟨by assumption, by assumption, Or.inr ⟨by assumption, by assumption⟩⟩)], rfl⟩ (by decide) (by decide)
          · show Go p e below s n0 _ _ _ (T0.setTop (mkF m 92 #[.val (.int x), .val (.int cx), .val (.int y), .val (.int cy), .val (.int a), .val (.int ka), .val (.int b'), .val (.int kb)] []))
            refine Go.st (fun _ => XS.iloadN X0.here C.hx rfl (hb C.hby d9_92) rfl) ?_
            show Go p e below s n0 _ _ _ (T0.setTop (mkF m 93 #[.val (.int x), .val (.int cx), .val (.int y), .val (.int cy), .val (.int a), .val (.int ka), .val (.int b'), .val (.int kb)] [(.int y)]))
            refine Go.st (fun _ => XS.iload X0.here C.hx rfl (hb C.hby d9_93) rfl) ?_
            show Go p e below s n0 _ _ _ (T0.setTop (mkF m 95 #[.val (.int x), .val (.int cx), .val (.int y), .val (.int cy), .val (.int a), .val (.int ka), .val (.int b'), .val (.int kb)] [(.int b'), (.int y)]))
            refine Go.icmp_eq C X0 (pc' := 110) d9_95 (by decide) (by decide) (fun hc95_208 => ?_) (fun hc95_208 => ?_)
            · show Go p e below s n0 _ _ _ (T0.setTop (mkF m 110 #[.val (.int x), .val (.int cx), .val (.int y), .val (.int cy), .val (.int a), .val (.int ka), .val (.int b'), .val (.int kb)] []))
              refine Go.st (fun _ => XS.iconst X0.here C.hx rfl (hb C.hby d9_110)) ?_
              show Go p e below s n0 _ _ _ (T0.setTop (mkF m 111 #[.val (.int x), .val (.int cx), .val (.int y), .val (.int cy), .val (.int a), .val (.int ka), .val (.int b'), .val (.int kb)] [(.int (1 : Int32))]))
              refine Go.st (fun _ => XS.goto X0.here C.hx rfl (pc0 := 111) (pc' := 115) rfl (hb C.hby d9_111) (by decide) (by decide)) ?_
              show Go p e below s n0 _ _ _ (T0.setTop (mkF m 115 #[.val (.int x), .val (.int cx), .val (.int y), .val (.int cy), .val (.int a), .val (.int ka), .val (.int b'), .val (.int kb)] [(.int (1 : Int32))]))
              exact Go.retZ C X0 (by decide) d9_115 ⟨by unfold pairF; rw [if_neg hc4_201, if_neg hc41_202]; rw [if_pos (by first | exact ⟨by assumption, by assumption, Or.inl ⟨by assumption, by assumption⟩⟩ | exact ⟨by assumption, by assumption, Or.inr ⟨by assumption, by assumption⟩⟩)], rfl⟩ (by decide) (by decide)
            · show Go p e below s n0 _ _ _ (T0.setTop (mkF m 98 #[.val (.int x), .val (.int cx), .val (.int y), .val (.int cy), .val (.int a), .val (.int ka), .val (.int b'), .val (.int kb)] []))
              refine Go.st (fun _ => XS.iloadN X0.here C.hx rfl (hb C.hby d9_98) rfl) ?_
              show Go p e below s n0 _ _ _ (T0.setTop (mkF m 99 #[.val (.int x), .val (.int cx), .val (.int y), .val (.int cy), .val (.int a), .val (.int ka), .val (.int b'), .val (.int kb)] [(.int x)]))
              refine Go.st (fun _ => XS.iload X0.here C.hx rfl (hb C.hby d9_99) rfl) ?_
              show Go p e below s n0 _ _ _ (T0.setTop (mkF m 101 #[.val (.int x), .val (.int cx), .val (.int y), .val (.int cy), .val (.int a), .val (.int ka), .val (.int b'), .val (.int kb)] [(.int b'), (.int x)]))
              refine Go.icmp_ne C X0 (pc' := 114) d9_101 (by decide) (by decide) (fun hc101_209 => ?_) (fun hc101_209 => ?_)
              · show Go p e below s n0 _ _ _ (T0.setTop (mkF m 114 #[.val (.int x), .val (.int cx), .val (.int y), .val (.int cy), .val (.int a), .val (.int ka), .val (.int b'), .val (.int kb)] []))
                refine Go.st (fun _ => XS.iconst X0.here C.hx rfl (hb C.hby d9_114)) ?_
                show Go p e below s n0 _ _ _ (T0.setTop (mkF m 115 #[.val (.int x), .val (.int cx), .val (.int y), .val (.int cy), .val (.int a), .val (.int ka), .val (.int b'), .val (.int kb)] [(.int (0 : Int32))]))
                exact Go.retZ C X0 (by decide) d9_115 ⟨by unfold pairF; rw [if_neg hc4_201, if_neg hc41_202]; rw [if_neg (by rintro ⟨u1, u2, ⟨u3, u4⟩ | ⟨u3, u4⟩⟩ <;> contradiction)], rfl⟩ (by decide) (by decide)
              · show Go p e below s n0 _ _ _ (T0.setTop (mkF m 104 #[.val (.int x), .val (.int cx), .val (.int y), .val (.int cy), .val (.int a), .val (.int ka), .val (.int b'), .val (.int kb)] []))
                refine Go.st (fun _ => XS.iloadN X0.here C.hx rfl (hb C.hby d9_104) rfl) ?_
                show Go p e below s n0 _ _ _ (T0.setTop (mkF m 105 #[.val (.int x), .val (.int cx), .val (.int y), .val (.int cy), .val (.int a), .val (.int ka), .val (.int b'), .val (.int kb)] [(.int y)]))
                refine Go.st (fun _ => XS.iload X0.here C.hx rfl (hb C.hby d9_105) rfl) ?_
                show Go p e below s n0 _ _ _ (T0.setTop (mkF m 107 #[.val (.int x), .val (.int cx), .val (.int y), .val (.int cy), .val (.int a), .val (.int ka), .val (.int b'), .val (.int kb)] [(.int a), (.int y)]))
                refine Go.icmp_ne C X0 (pc' := 114) d9_107 (by decide) (by decide) (fun hc107_210 => ?_) (fun hc107_210 => ?_)
                · show Go p e below s n0 _ _ _ (T0.setTop (mkF m 114 #[.val (.int x), .val (.int cx), .val (.int y), .val (.int cy), .val (.int a), .val (.int ka), .val (.int b'), .val (.int kb)] []))
                  refine Go.st (fun _ => XS.iconst X0.here C.hx rfl (hb C.hby d9_114)) ?_
                  show Go p e below s n0 _ _ _ (T0.setTop (mkF m 115 #[.val (.int x), .val (.int cx), .val (.int y), .val (.int cy), .val (.int a), .val (.int ka), .val (.int b'), .val (.int kb)] [(.int (0 : Int32))]))
                  exact Go.retZ C X0 (by decide) d9_115 ⟨by unfold pairF; rw [if_neg hc4_201, if_neg hc41_202]; rw [if_neg (by rintro ⟨u1, u2, ⟨u3, u4⟩ | ⟨u3, u4⟩⟩ <;> contradiction)], rfl⟩ (by decide) (by decide)
                · show Go p e below s n0 _ _ _ (T0.setTop (mkF m 110 #[.val (.int x), .val (.int cx), .val (.int y), .val (.int cy), .val (.int a), .val (.int ka), .val (.int b'), .val (.int kb)] []))
                  refine Go.st (fun _ => XS.iconst X0.here C.hx rfl (hb C.hby d9_110)) ?_
                  show Go p e below s n0 _ _ _ (T0.setTop (mkF m 111 #[.val (.int x), .val (.int cx), .val (.int y), .val (.int cy), .val (.int a), .val (.int ka), .val (.int b'), .val (.int kb)] [(.int (1 : Int32))]))
                  refine Go.st (fun _ => XS.goto X0.here C.hx rfl (pc0 := 111) (pc' := 115) rfl (hb C.hby d9_111) (by decide) (by decide)) ?_
                  show Go p e below s n0 _ _ _ (T0.setTop (mkF m 115 #[.val (.int x), .val (.int cx), .val (.int y), .val (.int cy), .val (.int a), .val (.int ka), .val (.int b'), .val (.int kb)] [(.int (1 : Int32))]))
                  exact Go.retZ C X0 (by decide) d9_115 ⟨by unfold pairF; rw [if_neg hc4_201, if_neg hc41_202]; rw [if_pos (by first | exact ⟨by assumption, by assumption, Or.inl ⟨by assumption, by assumption⟩⟩ | exact ⟨by assumption, by assumption, Or.inr ⟨by assumption, by assumption⟩⟩)], rfl⟩ (by decide) (by decide)
    · show Go p e below s n0 _ _ _ (T0.setTop (mkF m 44 #[.val (.int x), .val (.int cx), .val (.int y), .val (.int cy), .val (.int a), .val (.int ka), .val (.int b'), .val (.int kb)] []))
      refine Go.st (fun _ => XS.iloadN X0.here C.hx rfl (hb C.hby d9_44) rfl) ?_
      show Go p e below s n0 _ _ _ (T0.setTop (mkF m 45 #[.val (.int x), .val (.int cx), .val (.int y), .val (.int cy), .val (.int a), .val (.int ka), .val (.int b'), .val (.int kb)] [(.int x)]))
      refine Go.st (fun _ => XS.iload X0.here C.hx rfl (hb C.hby d9_45) rfl) ?_
      show Go p e below s n0 _ _ _ (T0.setTop (mkF m 47 #[.val (.int x), .val (.int cx), .val (.int y), .val (.int cy), .val (.int a), .val (.int ka), .val (.int b'), .val (.int kb)] [(.int b'), (.int x)]))
      refine Go.icmp_ne C X0 (pc' := 72) d9_47 (by decide) (by decide) (fun hc47_211 => ?_) (fun hc47_211 => ?_)
      · show Go p e below s n0 _ _ _ (T0.setTop (mkF m 72 #[.val (.int x), .val (.int cx), .val (.int y), .val (.int cy), .val (.int a), .val (.int ka), .val (.int b'), .val (.int kb)] []))
        refine Go.st (fun _ => XS.iconst X0.here C.hx rfl (hb C.hby d9_72)) ?_
        show Go p e below s n0 _ _ _ (T0.setTop (mkF m 73 #[.val (.int x), .val (.int cx), .val (.int y), .val (.int cy), .val (.int a), .val (.int ka), .val (.int b'), .val (.int kb)] [(.int (0 : Int32))]))
        exact Go.retZ C X0 (by decide) d9_73 ⟨by unfold pairF; rw [if_neg hc4_201, if_pos hc41_202]; rw [if_neg (by rintro ⟨u1, u2, u3, u4⟩ <;> contradiction)], rfl⟩ (by decide) (by decide)
      · show Go p e below s n0 _ _ _ (T0.setTop (mkF m 50 #[.val (.int x), .val (.int cx), .val (.int y), .val (.int cy), .val (.int a), .val (.int ka), .val (.int b'), .val (.int kb)] []))
        refine Go.st (fun _ => XS.iloadN X0.here C.hx rfl (hb C.hby d9_50) rfl) ?_
        show Go p e below s n0 _ _ _ (T0.setTop (mkF m 51 #[.val (.int x), .val (.int cx), .val (.int y), .val (.int cy), .val (.int a), .val (.int ka), .val (.int b'), .val (.int kb)] [(.int cx)]))
        refine Go.st (fun _ => XS.iload X0.here C.hx rfl (hb C.hby d9_51) rfl) ?_
        show Go p e below s n0 _ _ _ (T0.setTop (mkF m 53 #[.val (.int x), .val (.int cx), .val (.int y), .val (.int cy), .val (.int a), .val (.int ka), .val (.int b'), .val (.int kb)] [(.int kb), (.int cx)]))
        refine Go.icmp_ne C X0 (pc' := 72) d9_53 (by decide) (by decide) (fun hc53_212 => ?_) (fun hc53_212 => ?_)
        · show Go p e below s n0 _ _ _ (T0.setTop (mkF m 72 #[.val (.int x), .val (.int cx), .val (.int y), .val (.int cy), .val (.int a), .val (.int ka), .val (.int b'), .val (.int kb)] []))
          refine Go.st (fun _ => XS.iconst X0.here C.hx rfl (hb C.hby d9_72)) ?_
          show Go p e below s n0 _ _ _ (T0.setTop (mkF m 73 #[.val (.int x), .val (.int cx), .val (.int y), .val (.int cy), .val (.int a), .val (.int ka), .val (.int b'), .val (.int kb)] [(.int (0 : Int32))]))
          exact Go.retZ C X0 (by decide) d9_73 ⟨by unfold pairF; rw [if_neg hc4_201, if_pos hc41_202]; rw [if_neg (by rintro ⟨u1, u2, u3, u4⟩ <;> contradiction)], rfl⟩ (by decide) (by decide)
        · show Go p e below s n0 _ _ _ (T0.setTop (mkF m 56 #[.val (.int x), .val (.int cx), .val (.int y), .val (.int cy), .val (.int a), .val (.int ka), .val (.int b'), .val (.int kb)] []))
          refine Go.st (fun _ => XS.iloadN X0.here C.hx rfl (hb C.hby d9_56) rfl) ?_
          show Go p e below s n0 _ _ _ (T0.setTop (mkF m 57 #[.val (.int x), .val (.int cx), .val (.int y), .val (.int cy), .val (.int a), .val (.int ka), .val (.int b'), .val (.int kb)] [(.int y)]))
          refine Go.st (fun _ => XS.iload X0.here C.hx rfl (hb C.hby d9_57) rfl) ?_
          show Go p e below s n0 _ _ _ (T0.setTop (mkF m 59 #[.val (.int x), .val (.int cx), .val (.int y), .val (.int cy), .val (.int a), .val (.int ka), .val (.int b'), .val (.int kb)] [(.int a), (.int y)]))
          refine Go.icmp_ne C X0 (pc' := 72) d9_59 (by decide) (by decide) (fun hc59_213 => ?_) (fun hc59_213 => ?_)
          · show Go p e below s n0 _ _ _ (T0.setTop (mkF m 72 #[.val (.int x), .val (.int cx), .val (.int y), .val (.int cy), .val (.int a), .val (.int ka), .val (.int b'), .val (.int kb)] []))
            refine Go.st (fun _ => XS.iconst X0.here C.hx rfl (hb C.hby d9_72)) ?_
            show Go p e below s n0 _ _ _ (T0.setTop (mkF m 73 #[.val (.int x), .val (.int cx), .val (.int y), .val (.int cy), .val (.int a), .val (.int ka), .val (.int b'), .val (.int kb)] [(.int (0 : Int32))]))
            exact Go.retZ C X0 (by decide) d9_73 ⟨by unfold pairF; rw [if_neg hc4_201, if_pos hc41_202]; rw [if_neg (by rintro ⟨u1, u2, u3, u4⟩ <;> contradiction)], rfl⟩ (by decide) (by decide)
          · show Go p e below s n0 _ _ _ (T0.setTop (mkF m 62 #[.val (.int x), .val (.int cx), .val (.int y), .val (.int cy), .val (.int a), .val (.int ka), .val (.int b'), .val (.int kb)] []))
            refine Go.st (fun _ => XS.iloadN X0.here C.hx rfl (hb C.hby d9_62) rfl) ?_
            show Go p e below s n0 _ _ _ (T0.setTop (mkF m 63 #[.val (.int x), .val (.int cx), .val (.int y), .val (.int cy), .val (.int a), .val (.int ka), .val (.int b'), .val (.int kb)] [(.int cy)]))
            refine Go.st (fun _ => XS.iload X0.here C.hx rfl (hb C.hby d9_63) rfl) ?_
            show Go p e below s n0 _ _ _ (T0.setTop (mkF m 65 #[.val (.int x), .val (.int cx), .val (.int y), .val (.int cy), .val (.int a), .val (.int ka), .val (.int b'), .val (.int kb)] [(.int ka), (.int cy)]))
            refine Go.icmp_ne C X0 (pc' := 72) d9_65 (by decide) (by decide) (fun hc65_214 => ?_) (fun hc65_214 => ?_)
            · show Go p e below s n0 _ _ _ (T0.setTop (mkF m 72 #[.val (.int x), .val (.int cx), .val (.int y), .val (.int cy), .val (.int a), .val (.int ka), .val (.int b'), .val (.int kb)] []))
              refine Go.st (fun _ => XS.iconst X0.here C.hx rfl (hb C.hby d9_72)) ?_
              show Go p e below s n0 _ _ _ (T0.setTop (mkF m 73 #[.val (.int x), .val (.int cx), .val (.int y), .val (.int cy), .val (.int a), .val (.int ka), .val (.int b'), .val (.int kb)] [(.int (0 : Int32))]))
              exact Go.retZ C X0 (by decide) d9_73 ⟨by unfold pairF; rw [if_neg hc4_201, if_pos hc41_202]; rw [if_neg (by rintro ⟨u1, u2, u3, u4⟩ <;> contradiction)], rfl⟩ (by decide) (by decide)
            · show Go p e below s n0 _ _ _ (T0.setTop (mkF m 68 #[.val (.int x), .val (.int cx), .val (.int y), .val (.int cy), .val (.int a), .val (.int ka), .val (.int b'), .val (.int kb)] []))
              refine Go.st (fun _ => XS.iconst X0.here C.hx rfl (hb C.hby d9_68)) ?_
              show Go p e below s n0 _ _ _ (T0.setTop (mkF m 69 #[.val (.int x), .val (.int cx), .val (.int y), .val (.int cy), .val (.int a), .val (.int ka), .val (.int b'), .val (.int kb)] [(.int (1 : Int32))]))
              refine Go.st (fun _ => XS.goto X0.here C.hx rfl (pc0 := 69) (pc' := 73) rfl (hb C.hby d9_69) (by decide) (by decide)) ?_
              show Go p e below s n0 _ _ _ (T0.setTop (mkF m 73 #[.val (.int x), .val (.int cx), .val (.int y), .val (.int cy), .val (.int a), .val (.int ka), .val (.int b'), .val (.int kb)] [(.int (1 : Int32))]))
              exact Go.retZ C X0 (by decide) d9_73 ⟨by unfold pairF; rw [if_neg hc4_201, if_pos hc41_202]; rw [if_pos (by exact ⟨by assumption, by assumption, by assumption, by assumption⟩)], rfl⟩ (by decide) (by decide)
  · show Go p e below s n0 _ _ _ (T0.setTop (mkF m 7 #[.val (.int x), .val (.int cx), .val (.int y), .val (.int cy), .val (.int a), .val (.int ka), .val (.int b'), .val (.int kb)] []))
    refine Go.st (fun _ => XS.iloadN X0.here C.hx rfl (hb C.hby d9_7) rfl) ?_
    show Go p e below s n0 _ _ _ (T0.setTop (mkF m 8 #[.val (.int x), .val (.int cx), .val (.int y), .val (.int cy), .val (.int a), .val (.int ka), .val (.int b'), .val (.int kb)] [(.int x)]))
    refine Go.st (fun _ => XS.iload X0.here C.hx rfl (hb C.hby d9_8) rfl) ?_
    show Go p e below s n0 _ _ _ (T0.setTop (mkF m 10 #[.val (.int x), .val (.int cx), .val (.int y), .val (.int cy), .val (.int a), .val (.int ka), .val (.int b'), .val (.int kb)] [(.int a), (.int x)]))
    refine Go.icmp_ne C X0 (pc' := 35) d9_10 (by decide) (by decide) (fun hc10_215 => ?_) (fun hc10_215 => ?_)
    · show Go p e below s n0 _ _ _ (T0.setTop (mkF m 35 #[.val (.int x), .val (.int cx), .val (.int y), .val (.int cy), .val (.int a), .val (.int ka), .val (.int b'), .val (.int kb)] []))
      refine Go.st (fun _ => XS.iconst X0.here C.hx rfl (hb C.hby d9_35)) ?_
      show Go p e below s n0 _ _ _ (T0.setTop (mkF m 36 #[.val (.int x), .val (.int cx), .val (.int y), .val (.int cy), .val (.int a), .val (.int ka), .val (.int b'), .val (.int kb)] [(.int (0 : Int32))]))
      exact Go.retZ C X0 (by decide) d9_36 ⟨by unfold pairF; rw [if_pos hc4_201]; rw [if_neg (by rintro ⟨u1, u2, u3, u4⟩ <;> contradiction)], rfl⟩ (by decide) (by decide)
    · show Go p e below s n0 _ _ _ (T0.setTop (mkF m 13 #[.val (.int x), .val (.int cx), .val (.int y), .val (.int cy), .val (.int a), .val (.int ka), .val (.int b'), .val (.int kb)] []))
      refine Go.st (fun _ => XS.iloadN X0.here C.hx rfl (hb C.hby d9_13) rfl) ?_
      show Go p e below s n0 _ _ _ (T0.setTop (mkF m 14 #[.val (.int x), .val (.int cx), .val (.int y), .val (.int cy), .val (.int a), .val (.int ka), .val (.int b'), .val (.int kb)] [(.int cx)]))
      refine Go.st (fun _ => XS.iload X0.here C.hx rfl (hb C.hby d9_14) rfl) ?_
      show Go p e below s n0 _ _ _ (T0.setTop (mkF m 16 #[.val (.int x), .val (.int cx), .val (.int y), .val (.int cy), .val (.int a), .val (.int ka), .val (.int b'), .val (.int kb)] [(.int ka), (.int cx)]))
      refine Go.icmp_ne C X0 (pc' := 35) d9_16 (by decide) (by decide) (fun hc16_216 => ?_) (fun hc16_216 => ?_)
      · show Go p e below s n0 _ _ _ (T0.setTop (mkF m 35 #[.val (.int x), .val (.int cx), .val (.int y), .val (.int cy), .val (.int a), .val (.int ka), .val (.int b'), .val (.int kb)] []))
        refine Go.st (fun _ => XS.iconst X0.here C.hx rfl (hb C.hby d9_35)) ?_
        show Go p e below s n0 _ _ _ (T0.setTop (mkF m 36 #[.val (.int x), .val (.int cx), .val (.int y), .val (.int cy), .val (.int a), .val (.int ka), .val (.int b'), .val (.int kb)] [(.int (0 : Int32))]))
        exact Go.retZ C X0 (by decide) d9_36 ⟨by unfold pairF; rw [if_pos hc4_201]; rw [if_neg (by rintro ⟨u1, u2, u3, u4⟩ <;> contradiction)], rfl⟩ (by decide) (by decide)
      · show Go p e below s n0 _ _ _ (T0.setTop (mkF m 19 #[.val (.int x), .val (.int cx), .val (.int y), .val (.int cy), .val (.int a), .val (.int ka), .val (.int b'), .val (.int kb)] []))
        refine Go.st (fun _ => XS.iloadN X0.here C.hx rfl (hb C.hby d9_19) rfl) ?_
        show Go p e below s n0 _ _ _ (T0.setTop (mkF m 20 #[.val (.int x), .val (.int cx), .val (.int y), .val (.int cy), .val (.int a), .val (.int ka), .val (.int b'), .val (.int kb)] [(.int y)]))
        refine Go.st (fun _ => XS.iload X0.here C.hx rfl (hb C.hby d9_20) rfl) ?_
        show Go p e below s n0 _ _ _ (T0.setTop (mkF m 22 #[.val (.int x), .val (.int cx), .val (.int y), .val (.int cy), .val (.int a), .val (.int ka), .val (.int b'), .val (.int kb)] [(.int b'), (.int y)]))
        refine Go.icmp_ne C X0 (pc' := 35) d9_22 (by decide) (by decide) (fun hc22_217 => ?_) (fun hc22_217 => ?_)
        · show Go p e below s n0 _ _ _ (T0.setTop (mkF m 35 #[.val (.int x), .val (.int cx), .val (.int y), .val (.int cy), .val (.int a), .val (.int ka), .val (.int b'), .val (.int kb)] []))
          refine Go.st (fun _ => XS.iconst X0.here C.hx rfl (hb C.hby d9_35)) ?_
          show Go p e below s n0 _ _ _ (T0.setTop (mkF m 36 #[.val (.int x), .val (.int cx), .val (.int y), .val (.int cy), .val (.int a), .val (.int ka), .val (.int b'), .val (.int kb)] [(.int (0 : Int32))]))
          exact Go.retZ C X0 (by decide) d9_36 ⟨by unfold pairF; rw [if_pos hc4_201]; rw [if_neg (by rintro ⟨u1, u2, u3, u4⟩ <;> contradiction)], rfl⟩ (by decide) (by decide)
        · show Go p e below s n0 _ _ _ (T0.setTop (mkF m 25 #[.val (.int x), .val (.int cx), .val (.int y), .val (.int cy), .val (.int a), .val (.int ka), .val (.int b'), .val (.int kb)] []))
          refine Go.st (fun _ => XS.iloadN X0.here C.hx rfl (hb C.hby d9_25) rfl) ?_
          show Go p e below s n0 _ _ _ (T0.setTop (mkF m 26 #[.val (.int x), .val (.int cx), .val (.int y), .val (.int cy), .val (.int a), .val (.int ka), .val (.int b'), .val (.int kb)] [(.int cy)]))
          refine Go.st (fun _ => XS.iload X0.here C.hx rfl (hb C.hby d9_26) rfl) ?_
          show Go p e below s n0 _ _ _ (T0.setTop (mkF m 28 #[.val (.int x), .val (.int cx), .val (.int y), .val (.int cy), .val (.int a), .val (.int ka), .val (.int b'), .val (.int kb)] [(.int kb), (.int cy)]))
          refine Go.icmp_ne C X0 (pc' := 35) d9_28 (by decide) (by decide) (fun hc28_218 => ?_) (fun hc28_218 => ?_)
          · show Go p e below s n0 _ _ _ (T0.setTop (mkF m 35 #[.val (.int x), .val (.int cx), .val (.int y), .val (.int cy), .val (.int a), .val (.int ka), .val (.int b'), .val (.int kb)] []))
            refine Go.st (fun _ => XS.iconst X0.here C.hx rfl (hb C.hby d9_35)) ?_
            show Go p e below s n0 _ _ _ (T0.setTop (mkF m 36 #[.val (.int x), .val (.int cx), .val (.int y), .val (.int cy), .val (.int a), .val (.int ka), .val (.int b'), .val (.int kb)] [(.int (0 : Int32))]))
            exact Go.retZ C X0 (by decide) d9_36 ⟨by unfold pairF; rw [if_pos hc4_201]; rw [if_neg (by rintro ⟨u1, u2, u3, u4⟩ <;> contradiction)], rfl⟩ (by decide) (by decide)
          · show Go p e below s n0 _ _ _ (T0.setTop (mkF m 31 #[.val (.int x), .val (.int cx), .val (.int y), .val (.int cy), .val (.int a), .val (.int ka), .val (.int b'), .val (.int kb)] []))
            refine Go.st (fun _ => XS.iconst X0.here C.hx rfl (hb C.hby d9_31)) ?_
            show Go p e below s n0 _ _ _ (T0.setTop (mkF m 32 #[.val (.int x), .val (.int cx), .val (.int y), .val (.int cy), .val (.int a), .val (.int ka), .val (.int b'), .val (.int kb)] [(.int (1 : Int32))]))
            refine Go.st (fun _ => XS.goto X0.here C.hx rfl (pc0 := 32) (pc' := 36) rfl (hb C.hby d9_32) (by decide) (by decide)) ?_
            show Go p e below s n0 _ _ _ (T0.setTop (mkF m 36 #[.val (.int x), .val (.int cx), .val (.int y), .val (.int cy), .val (.int a), .val (.int ka), .val (.int b'), .val (.int kb)] [(.int (1 : Int32))]))
            exact Go.retZ C X0 (by decide) d9_36 ⟨by unfold pairF; rw [if_pos hc4_201]; rw [if_pos (by exact ⟨by assumption, by assumption, by assumption, by assumption⟩)], rfl⟩ (by decide) (by decide)
def bN1 (M kA : Nat) : List Int := (List.replicate M (-1)).set kA 0
def bO1 (M kA : Nat) : List Int := ([0, 0, 0] : List Int).set 0 ((List.replicate M (-1)).getD kA 0)
def bN2 (M kA kB : Nat) : List Int := (bN1 M kA).set kB 1
def bO2 (M kA kB : Nat) : List Int := (bO1 M kA).set 1 ((bN1 M kA).getD kB 0)
def bK0 (M kA kB : Nat) : Nat := tkK (bN2 M kA kB) 0
def bN3 (M kA kB : Nat) : List Int := tkN (bN2 M kA kB) (bO2 M kA kB) 0
def bN4 (M kA kB kC : Nat) : List Int := (bN3 M kA kB).set kC 2
def bO4 (M kA kB kC : Nat) : List Int := (bO2 M kA kB).set 2 ((bN3 M kA kB).getD kC 0)
def bK1 (M kA kB kC : Nat) : Nat := tkK (bN4 M kA kB kC) (bK0 M kA kB)
def bN5 (M kA kB kC : Nat) : List Int := tkN (bN4 M kA kB kC) (bO4 M kA kB kC) (bK0 M kA kB)
def bK2 (M kA kB kC : Nat) : Nat := tkK (bN5 M kA kB kC) (bK1 M kA kB kC)
def bN6 (M kA kB kC : Nat) : List Int := tkN (bN5 M kA kB kC) (bO4 M kA kB kC) (bK1 M kA kB kC)
def vB (nw : List Int) : Bool := (List.range nw.length).all (fun j => decide (-1 ≤ nw.getD j 0 ∧ nw.getD j 0 < 3))
theorem vB_ok {nw : List Int} (h : vB nw = true) : VN nw := fun j hj => by
  have := List.all_eq_true.mp h j (List.mem_range.mpr hj)
  exact of_decide_eq_true this
def bRk (kA kB : Nat) : Nat := if kA < kB then kB else kA
def bRe (kA kB : Nat) : Int := if kA < kB then 1 else 0
def chkA (M kA kB : Nat) : Bool := vB (bN2 M kA kB) && decide ((bN2 M kA kB).length = M) && decide ((bN3 M kA kB).length = M) && decide (bK0 M kA kB = if kA < kB then kA else kB) && decide ((bN2 M kA kB).getD (if kA < kB then kA else kB) 0 = if kA < kB then 0 else 1)
def chkB (M kA kB kC : Nat) : Bool := vB (bN4 M kA kB kC) && vB (bN5 M kA kB kC) && vB (bN6 M kA kB kC) && decide ((bN4 M kA kB kC).length = M) && decide ((bN5 M kA kB kC).length = M) && decide ((bN6 M kA kB kC).length = M)
  && decide (bK1 M kA kB kC = if bRk kA kB < kC then bRk kA kB else kC) && decide ((bN4 M kA kB kC).getD (if bRk kA kB < kC then bRk kA kB else kC) 0 = if bRk kA kB < kC then bRe kA kB else 2)
  && decide (bK2 M kA kB kC = if bRk kA kB < kC then kC else bRk kA kB) && decide ((bN5 M kA kB kC).getD (if bRk kA kB < kC then kC else bRk kA kB) 0 = if bRk kA kB < kC then 2 else bRe kA kB)
  && decide (tkK (bN6 M kA kB kC) (bK2 M kA kB kC) = M)
theorem tkV_hit {nw : List Int} {nd : List Int32} {ky e M k : Nat} (hl : nw.length = M) (hk : tkK nw ky = k) (h : k < M) (he : nw.getD k 0 = (e : Int)) : tkV nw nd ky = nd.getD e 0 := by
  unfold tkV
  rw [hk, if_neg (by omega), he]; rfl
theorem tkV_end {nw : List Int} {nd : List Int32} {ky M : Nat} (hl : nw.length = M) (hk : tkK nw ky = M) : tkV nw nd ky = -1 := by
  unfold tkV
  rw [hk, if_pos (by omega)]
set_option maxRecDepth 65536 in
theorem allA : ∀ kA kB : Fin 4, chkA 4 kA.1 kB.1 = true := by decide +kernel
set_option maxRecDepth 65536 in
theorem allB : ∀ kA kB kC : Fin 4, (if kA.1 < kB.1 then kA.1 else kB.1) ≤ kC.1 → chkB 4 kA.1 kB.1 kC.1 = true := by decide +kernel
theorem and3 {x z : Int32} (h : (x &&& (3 : Int32)) = z) : ∃ kA : Nat, kA < 4 ∧ z = kA.toInt32 := by
  obtain ⟨h1, h2⟩ := c_and x 3 (by decide)
  rw [h] at h1 h2
  have e : (3 : Int32).toInt = 3 := rfl
  have hz : ¬ z < 0 := by rw [Int32.lt_iff_toInt_lt]; have h0 : (0 : Int32).toInt = 0 := rfl; omega
  refine ⟨z.toNatClampNeg, ?_, ((back32 hz).1).symm⟩
  simp only [Int32.toNatClampNeg]; omega
theorem kcOk {x z : Int32} {m : Nat} (hm : m < 4) (h : (m.toInt32 + ((x &&& (3 : Int32)) % ((4 : Int32) - m.toInt32))) = z) : ∃ kC : Nat, m ≤ kC ∧ kC < 4 ∧ z = kC.toInt32 := by
  obtain ⟨j, hj, hx⟩ := and3 (x := x) rfl
  rw [hx] at h
  have : ∀ m j : Fin 4, ∃ kC : Fin 4, m.1 ≤ kC.1 ∧ (m.1.toInt32 + (j.1.toInt32 % ((4 : Int32) - m.1.toInt32))) = kC.1.toInt32 := by decide +kernel
  obtain ⟨k, k1, k2⟩ := this ⟨m, hm⟩ ⟨j, hj⟩
  exact ⟨k.1, k1, k.2, h.symm.trans k2⟩
theorem sub4 {m : Nat} (hm : m < 4) : ((4 : Int32) - m.toInt32) ≠ 0 := by
  have : ∀ m : Fin 4, ((4 : Int32) - m.1.toInt32) ≠ 0 := by decide +kernel
  exact this ⟨m, hm⟩
theorem ltI {i j : Nat} (hi : i < 4) (hj : j < 4) : i.toInt32 < j.toInt32 ↔ i < j := by
  rw [Int32.lt_iff_toInt_lt, len_toInt (by omega), len_toInt (by omega)]; omega
theorem mn_B {i j : Nat} (hi : i < 4) (hj : j < 4) (h : ¬ i < j) : mnF i.toInt32 j.toInt32 = j.toInt32 := by
  unfold mnF
  split
  · rfl
  · rename_i q
    rw [ltI hj hi] at q
    have : i = j := by omega
    rw [this]
theorem pair_N {rk kC : Nat} {r r' v3 : Int32} (hr : rk < 4) (hC : kC < 4) (h : ¬ rk < kC) (er : r = r') : pairF v3 kC.toInt32 r' rk.toInt32 r rk.toInt32 v3 kC.toInt32 = 1 := by
  subst er
  have h1 : ¬ rk.toInt32 < kC.toInt32 := by rw [ltI hr hC]; exact h
  by_cases q : kC < rk
  · have h2 : kC.toInt32 < rk.toInt32 := (ltI hC hr).mpr q
    simp [pairF, h1, h2]
  · have : kC = rk := by omega
    subst this
    simp [pairF, h1]
theorem pf_0 : plainFor x = true := plainFor_of_name (by first | (simp [plainName, overriddenIn]; done) | decide +kernel)
theorem pd_0 : parseMethodDescriptor "(IIIIII)Z" = some ⟨[.int, .int, .int, .int, .int, .int], some .boolean⟩ := by decide +kernel

set_option maxRecDepth 65536 in
set_option maxHeartbeats 40000000 in
theorem con_law (l : Launch) (Z : State) (a0 : Array Value) (hw : ∀ d ∈ tables_1, d.before a0 Z = true) (n0 : Nat) (h0 : Heap) (Z0 : n0 ≤ h0.size) (v1 v2 v3 k1 k2 k3 : Int32)  :
    Con l Z x code maxLocals ret tables_1 room_1 n0 #[(.int v1), (.int v2), (.int v3), (.int k1), (.int k2), (.int k3)] h0 (fun v h => v = some (.int 1)) := by
  refine Con.mk pf_0 hw Z0 ?_
  intro p e s m below meth c T0 C X0
  have ef : entryFrame m #[(.int v1), (.int v2), (.int v3), (.int k1), (.int k2), (.int k3)] maxLocals = mkF m 0 #[.val (.int v1), .val (.int v2), .val (.int v3), .val (.int k1), .val (.int k2), .val (.int k3), .unset, .unset, .unset, .unset, .unset, .unset, .unset, .unset, .unset, .unset, .unset, .unset, .unset, .unset, .unset] [] := by first | (simp [entryFrame, mkF, argsToLocals, Value.category, maxLocals]; done) | rfl
  rw [ef]
  have _u := k1
  show Go p e below s n0 _ _ _ (T0.setTop (mkF m 0 #[.val (.int v1), .val (.int v2), .val (.int v3), .val (.int k1), .val (.int k2), .val (.int k3), .unset, .unset, .unset, .unset, .unset, .unset, .unset, .unset, .unset, .unset, .unset, .unset, .unset, .unset, .unset] []))
  refine Go.newO C X0 (wd 0 rfl) (wd 1 rfl) (wd 2 rfl) at_0 (by decide) (by decide) (fun T219 h219 b219 g219 ge219 X219 E219 A219 D219 => ?_)
  have F_newest_b219 : Fld Z h219 b219 "com/example/layrd/layrd/layout/BucketQueue" "newest" "[I" .null := D219 (Or.inr (wd 11 rfl)) (ty := (.array .int)) (by decide)
  have F_node_b219 : Fld Z h219 b219 "com/example/layrd/layrd/layout/BucketQueue" "node" "[I" .null := D219 (Or.inr (wd 13 rfl)) (ty := (.array .int)) (by decide)
  have F_older_b219 : Fld Z h219 b219 "com/example/layrd/layrd/layout/BucketQueue" "older" "[I" .null := D219 (Or.inr (wd 15 rfl)) (ty := (.array .int)) (by decide)
  have F_entries_b219 : Fld Z h219 b219 "com/example/layrd/layrd/layout/BucketQueue" "entries" "I" (.int (0 : Int32)) := D219 (Or.inl (wd 26 rfl)) (ty := .int) (by decide)
  have F_key_b219 : Fld Z h219 b219 "com/example/layrd/layrd/layout/BucketQueue" "key" "I" (.int (0 : Int32)) := D219 (Or.inl (wd 28 rfl)) (ty := .int) (by decide)
  show Go p e below s n0 _ _ _ (T219.setTop (mkF m 3 #[.val (.int v1), .val (.int v2), .val (.int v3), .val (.int k1), .val (.int k2), .val (.int k3), .unset, .unset, .unset, .unset, .unset, .unset, .unset, .unset, .unset, .unset, .unset, .unset, .unset, .unset, .unset] [(.ref b219)]))
  refine Go.st (fun _ => XS.dup X219.here C.hx rfl (hb C.hby at_3) rfl rfl) ?_
  show Go p e below s n0 _ _ _ (T219.setTop (mkF m 4 #[.val (.int v1), .val (.int v2), .val (.int v3), .val (.int k1), .val (.int k2), .val (.int k3), .unset, .unset, .unset, .unset, .unset, .unset, .unset, .unset, .unset, .unset, .unset, .unset, .unset, .unset, .unset] [(.ref b219), (.ref b219)]))
  refine Go.st (fun _ => XS.iconst X219.here C.hx rfl (hb C.hby at_4)) ?_
  show Go p e below s n0 _ _ _ (T219.setTop (mkF m 5 #[.val (.int v1), .val (.int v2), .val (.int v3), .val (.int k1), .val (.int k2), .val (.int k3), .unset, .unset, .unset, .unset, .unset, .unset, .unset, .unset, .unset, .unset, .unset, .unset, .unset, .unset, .unset] [(.int (3 : Int32)), (.ref b219), (.ref b219)]))
  refine Go.st (fun _ => XS.iconst X219.here C.hx rfl (hb C.hby at_5)) ?_
  show Go p e below s n0 _ _ _ (T219.setTop (mkF m 6 #[.val (.int v1), .val (.int v2), .val (.int v3), .val (.int k1), .val (.int k2), .val (.int k3), .unset, .unset, .unset, .unset, .unset, .unset, .unset, .unset, .unset, .unset, .unset, .unset, .unset, .unset, .unset] [(.int (3 : Int32)), (.int (3 : Int32)), (.ref b219), (.ref b219)]))
  refine Go.callInit C X219 (W := 1) (argsL := [(.int (3 : Int32)), (.int (3 : Int32))]) (rest := [(.ref b219)]) (a := b219) rfl (wd 3 rfl) (wd 4 rfl) (wd 2 rfl) (wd 5 rfl) (by decide) (con_init l Z a0 hw n0 h219 X219.size b219 (3 : Int32) 4 ge219 A219 F_newest_b219 F_node_b219 F_older_b219 F_entries_b219 F_key_b219 (by decide) (by decide) (by decide)) (by decide) (by decide) rfl (lenOf pd_1 rfl) (Nat.le_of_ble_eq_true rfl) rfl at_6 (by decide) (by decide) (fun T220 h220 v220 X220 hQ220 => ?_)
  obtain ⟨rfl, a1_220, a2_220, a3_220, DD220, BB220⟩ := hQ220
  show Go p e below s n0 _ _ _ (T220.setTop (mkF m 9 #[.val (.int v1), .val (.int v2), .val (.int v3), .val (.int k1), .val (.int k2), .val (.int k3), .unset, .unset, .unset, .unset, .unset, .unset, .unset, .unset, .unset, .unset, .unset, .unset, .unset, .unset, .unset] [(.ref b219)]))
  refine Go.st (fun _ => XS.astore X220.here C.hx rfl (hb C.hby at_9) rfl rfl (l' := #[.val (.int v1), .val (.int v2), .val (.int v3), .val (.int k1), .val (.int k2), .val (.int k3), .val (.ref b219), .unset, .unset, .unset, .unset, .unset, .unset, .unset, .unset, .unset, .unset, .unset, .unset, .unset, .unset]) rfl) ?_
  show Go p e below s n0 _ _ _ (T220.setTop (mkF m 11 #[.val (.int v1), .val (.int v2), .val (.int v3), .val (.int k1), .val (.int k2), .val (.int k3), .val (.ref b219), .unset, .unset, .unset, .unset, .unset, .unset, .unset, .unset, .unset, .unset, .unset, .unset, .unset, .unset] []))
  refine Go.st (fun _ => XS.iloadN X220.here C.hx rfl (hb C.hby at_11) rfl) ?_
  show Go p e below s n0 _ _ _ (T220.setTop (mkF m 12 #[.val (.int v1), .val (.int v2), .val (.int v3), .val (.int k1), .val (.int k2), .val (.int k3), .val (.ref b219), .unset, .unset, .unset, .unset, .unset, .unset, .unset, .unset, .unset, .unset, .unset, .unset, .unset, .unset] [(.int k1)]))
  refine Go.st (fun _ => XS.iconst X220.here C.hx rfl (hb C.hby at_12)) ?_
  show Go p e below s n0 _ _ _ (T220.setTop (mkF m 13 #[.val (.int v1), .val (.int v2), .val (.int v3), .val (.int k1), .val (.int k2), .val (.int k3), .val (.ref b219), .unset, .unset, .unset, .unset, .unset, .unset, .unset, .unset, .unset, .unset, .unset, .unset, .unset, .unset] [(.int (3 : Int32)), (.int k1)]))
  refine Go.st (fun _ => XS.iand X220.here C.hx rfl (hb C.hby at_13) rfl) ?_
  show Go p e below s n0 _ _ _ (T220.setTop (mkF m 14 #[.val (.int v1), .val (.int v2), .val (.int v3), .val (.int k1), .val (.int k2), .val (.int k3), .val (.ref b219), .unset, .unset, .unset, .unset, .unset, .unset, .unset, .unset, .unset, .unset, .unset, .unset, .unset, .unset] [(.int (k1 &&& (3 : Int32)))]))
  generalize hg_ka : (k1 &&& (3 : Int32)) = ka
  refine Go.st (fun _ => XS.istore X220.here C.hx rfl (hb C.hby at_14) rfl (l' := #[.val (.int v1), .val (.int v2), .val (.int v3), .val (.int k1), .val (.int k2), .val (.int k3), .val (.ref b219), .val (.int ka), .unset, .unset, .unset, .unset, .unset, .unset, .unset, .unset, .unset, .unset, .unset, .unset, .unset]) rfl) ?_
  obtain ⟨kA, hA4, rfl⟩ := and3 hg_ka
  show Go p e below s n0 _ _ _ (T220.setTop (mkF m 16 #[.val (.int v1), .val (.int v2), .val (.int v3), .val (.int k1), .val (.int k2), .val (.int k3), .val (.ref b219), .val (.int kA.toInt32), .unset, .unset, .unset, .unset, .unset, .unset, .unset, .unset, .unset, .unset, .unset, .unset, .unset] []))
  refine Go.st (fun _ => XS.iload X220.here C.hx rfl (hb C.hby at_16) rfl) ?_
  show Go p e below s n0 _ _ _ (T220.setTop (mkF m 18 #[.val (.int v1), .val (.int v2), .val (.int v3), .val (.int k1), .val (.int k2), .val (.int k3), .val (.ref b219), .val (.int kA.toInt32), .unset, .unset, .unset, .unset, .unset, .unset, .unset, .unset, .unset, .unset, .unset, .unset, .unset] [(.int k2)]))
  refine Go.st (fun _ => XS.iconst X220.here C.hx rfl (hb C.hby at_18)) ?_
  show Go p e below s n0 _ _ _ (T220.setTop (mkF m 19 #[.val (.int v1), .val (.int v2), .val (.int v3), .val (.int k1), .val (.int k2), .val (.int k3), .val (.ref b219), .val (.int kA.toInt32), .unset, .unset, .unset, .unset, .unset, .unset, .unset, .unset, .unset, .unset, .unset, .unset, .unset] [(.int (3 : Int32)), (.int k2)]))
  refine Go.st (fun _ => XS.iand X220.here C.hx rfl (hb C.hby at_19) rfl) ?_
  show Go p e below s n0 _ _ _ (T220.setTop (mkF m 20 #[.val (.int v1), .val (.int v2), .val (.int v3), .val (.int k1), .val (.int k2), .val (.int k3), .val (.ref b219), .val (.int kA.toInt32), .unset, .unset, .unset, .unset, .unset, .unset, .unset, .unset, .unset, .unset, .unset, .unset, .unset] [(.int (k2 &&& (3 : Int32)))]))
  generalize hg_kb : (k2 &&& (3 : Int32)) = kb
  refine Go.st (fun _ => XS.istore X220.here C.hx rfl (hb C.hby at_20) rfl (l' := #[.val (.int v1), .val (.int v2), .val (.int v3), .val (.int k1), .val (.int k2), .val (.int k3), .val (.ref b219), .val (.int kA.toInt32), .val (.int kb), .unset, .unset, .unset, .unset, .unset, .unset, .unset, .unset, .unset, .unset, .unset, .unset]) rfl) ?_
  obtain ⟨kB, hB4, rfl⟩ := and3 hg_kb
  show Go p e below s n0 _ _ _ (T220.setTop (mkF m 22 #[.val (.int v1), .val (.int v2), .val (.int v3), .val (.int k1), .val (.int k2), .val (.int k3), .val (.ref b219), .val (.int kA.toInt32), .val (.int kB.toInt32), .unset, .unset, .unset, .unset, .unset, .unset, .unset, .unset, .unset, .unset, .unset, .unset] []))
  refine Go.st (fun _ => XS.aload X220.here C.hx rfl (hb C.hby at_22) rfl rfl) ?_
  show Go p e below s n0 _ _ _ (T220.setTop (mkF m 24 #[.val (.int v1), .val (.int v2), .val (.int v3), .val (.int k1), .val (.int k2), .val (.int k3), .val (.ref b219), .val (.int kA.toInt32), .val (.int kB.toInt32), .unset, .unset, .unset, .unset, .unset, .unset, .unset, .unset, .unset, .unset, .unset, .unset] [(.ref b219)]))
  refine Go.st (fun _ => XS.iloadN X220.here C.hx rfl (hb C.hby at_24) rfl) ?_
  show Go p e below s n0 _ _ _ (T220.setTop (mkF m 25 #[.val (.int v1), .val (.int v2), .val (.int v3), .val (.int k1), .val (.int k2), .val (.int k3), .val (.ref b219), .val (.int kA.toInt32), .val (.int kB.toInt32), .unset, .unset, .unset, .unset, .unset, .unset, .unset, .unset, .unset, .unset, .unset, .unset] [(.int v1), (.ref b219)]))
  refine Go.st (fun _ => XS.iload X220.here C.hx rfl (hb C.hby at_25) rfl) ?_
  show Go p e below s n0 _ _ _ (T220.setTop (mkF m 27 #[.val (.int v1), .val (.int v2), .val (.int v3), .val (.int k1), .val (.int k2), .val (.int k3), .val (.ref b219), .val (.int kA.toInt32), .val (.int kB.toInt32), .unset, .unset, .unset, .unset, .unset, .unset, .unset, .unset, .unset, .unset, .unset, .unset] [(.int kA.toInt32), (.int v1), (.ref b219)]))
  refine Go.callV C X220 (W := 0) (argsL := [(.int v1), (.int kA.toInt32)]) (rest := []) (a := b219) (BB220).1 (wd 29 rfl) (wd 30 rfl) (wd 32 rfl) (wd 31 rfl) (wd 2 rfl) (wd 33 rfl) (by decide) rfl (con_put l Z a0 hw n0 h220 X220.size b219 a1_220 a2_220 a3_220 (List.replicate 4 (-1)) [0, 0, 0] [0, 0, 0] 0 ((0 : Nat).toInt32) v1 kA.toInt32 kA DD220 (by decide) rfl rfl rfl (by rw [List.length_replicate]; exact hA4) (by rw [List.length_replicate]; decide) BB220) (by decide) (by decide) rfl (lenOf pd_5 rfl) (Nat.le_of_ble_eq_true rfl) rfl at_27 (by decide) (by decide) (fun T221 h221 v221 X221 hQ221 => ?_)
  obtain ⟨rfl, BA221⟩ := hQ221
  have BB221 : BQ Z h221 b219 a1_220 a2_220 a3_220 (bN1 4 kA) (bO1 4 kA) [v1, 0, 0] (1 : Nat).toInt32 (0 : Nat).toInt32 := BA221
  show Go p e below s n0 _ _ _ (T221.setTop (mkF m 30 #[.val (.int v1), .val (.int v2), .val (.int v3), .val (.int k1), .val (.int k2), .val (.int k3), .val (.ref b219), .val (.int kA.toInt32), .val (.int kB.toInt32), .unset, .unset, .unset, .unset, .unset, .unset, .unset, .unset, .unset, .unset, .unset, .unset] []))
  refine Go.st (fun _ => XS.aload X221.here C.hx rfl (hb C.hby at_30) rfl rfl) ?_
  show Go p e below s n0 _ _ _ (T221.setTop (mkF m 32 #[.val (.int v1), .val (.int v2), .val (.int v3), .val (.int k1), .val (.int k2), .val (.int k3), .val (.ref b219), .val (.int kA.toInt32), .val (.int kB.toInt32), .unset, .unset, .unset, .unset, .unset, .unset, .unset, .unset, .unset, .unset, .unset, .unset] [(.ref b219)]))
  refine Go.st (fun _ => XS.iloadN X221.here C.hx rfl (hb C.hby at_32) rfl) ?_
  show Go p e below s n0 _ _ _ (T221.setTop (mkF m 33 #[.val (.int v1), .val (.int v2), .val (.int v3), .val (.int k1), .val (.int k2), .val (.int k3), .val (.ref b219), .val (.int kA.toInt32), .val (.int kB.toInt32), .unset, .unset, .unset, .unset, .unset, .unset, .unset, .unset, .unset, .unset, .unset, .unset] [(.int v2), (.ref b219)]))
  refine Go.st (fun _ => XS.iload X221.here C.hx rfl (hb C.hby at_33) rfl) ?_
  show Go p e below s n0 _ _ _ (T221.setTop (mkF m 35 #[.val (.int v1), .val (.int v2), .val (.int v3), .val (.int k1), .val (.int k2), .val (.int k3), .val (.ref b219), .val (.int kA.toInt32), .val (.int kB.toInt32), .unset, .unset, .unset, .unset, .unset, .unset, .unset, .unset, .unset, .unset, .unset, .unset] [(.int kB.toInt32), (.int v2), (.ref b219)]))
  refine Go.callV C X221 (W := 0) (argsL := [(.int v2), (.int kB.toInt32)]) (rest := []) (a := b219) (BB221).1 (wd 29 rfl) (wd 30 rfl) (wd 32 rfl) (wd 31 rfl) (wd 2 rfl) (wd 33 rfl) (by decide) rfl (con_put l Z a0 hw n0 h221 X221.size b219 a1_220 a2_220 a3_220 (bN1 4 kA) (bO1 4 kA) [v1, 0, 0] 1 ((0 : Nat).toInt32) v2 kB.toInt32 kB DD220 (by decide) rfl (by unfold bO1; rw [List.length_set]; rfl) rfl (by unfold bN1; rw [List.length_set, List.length_replicate]; exact hB4) (by unfold bN1; rw [List.length_set, List.length_replicate]; decide) BB221) (by decide) (by decide) rfl (lenOf pd_5 rfl) (Nat.le_of_ble_eq_true rfl) rfl at_35 (by decide) (by decide) (fun T222 h222 v222 X222 hQ222 => ?_)
  obtain ⟨rfl, BA222⟩ := hQ222
  have BB222 : BQ Z h222 b219 a1_220 a2_220 a3_220 (bN2 4 kA kB) (bO2 4 kA kB) [v1, v2, 0] (2 : Nat).toInt32 (0 : Nat).toInt32 := BA222
  have hA := allA ⟨kA, hA4⟩ ⟨kB, hB4⟩
  simp only [chkA, Bool.and_eq_true, decide_eq_true_eq] at hA
  obtain ⟨⟨⟨⟨fv2, fa2⟩, fa3⟩, fk0⟩, fe0⟩ := hA
  replace fv2 := vB_ok fv2
  have lO2 : (bO2 4 kA kB).length = 3 := by unfold bO2 bO1; rw [List.length_set, List.length_set]; rfl
  by_cases hAB : kA < kB
  · rw [if_pos hAB] at fk0 fe0
    rw [if_pos hAB] at fe0
    unfold bK0 at fk0
    have hABz : kA.toInt32 < kB.toInt32 := by rw [ltI hA4 hB4]; exact hAB
    show Go p e below s n0 _ _ _ (T222.setTop (mkF m 38 #[.val (.int v1), .val (.int v2), .val (.int v3), .val (.int k1), .val (.int k2), .val (.int k3), .val (.ref b219), .val (.int kA.toInt32), .val (.int kB.toInt32), .unset, .unset, .unset, .unset, .unset, .unset, .unset, .unset, .unset, .unset, .unset, .unset] []))
    refine Go.st (fun _ => XS.aload X222.here C.hx rfl (hb C.hby at_38) rfl rfl) ?_
    show Go p e below s n0 _ _ _ (T222.setTop (mkF m 40 #[.val (.int v1), .val (.int v2), .val (.int v3), .val (.int k1), .val (.int k2), .val (.int k3), .val (.ref b219), .val (.int kA.toInt32), .val (.int kB.toInt32), .unset, .unset, .unset, .unset, .unset, .unset, .unset, .unset, .unset, .unset, .unset, .unset] [(.ref b219)]))
    refine Go.callV C X222 (W := 0) (argsL := []) (rest := []) (a := b219) (BB222).1 (wd 34 rfl) (wd 35 rfl) (wd 37 rfl) (wd 36 rfl) (wd 2 rfl) (wd 38 rfl) (by decide) rfl (con_take l Z a0 hw n0 h222 X222.size b219 a1_220 a2_220 a3_220 (bN2 4 kA kB) (bO2 4 kA kB) [v1, v2, 0] ((2 : Nat).toInt32) ((0 : Nat).toInt32) 0 DD220 rfl lO2 (by rw [fa2]; decide) fv2 rfl (Nat.zero_le _) BB222) (by decide) (by decide) rfl (lenOf pd_6 rfl) (Nat.le_of_ble_eq_true rfl) rfl at_40 (by decide) (by decide) (fun T223 h223 v223 X223 hQ223 => ?_)
    obtain ⟨rfl, BA223⟩ := hQ223
    rw [tkV_hit (e := 0) fa2 fk0 (by omega) fe0]
    have BB223 : BQ Z h223 b219 a1_220 a2_220 a3_220 (bN3 4 kA kB) (bO2 4 kA kB) [v1, v2, 0] (2 : Nat).toInt32 (kA : Nat).toInt32 := by have u := BA223; rw [fk0] at u; exact u
    show Go p e below s n0 _ _ _ (T223.setTop (mkF m 43 #[.val (.int v1), .val (.int v2), .val (.int v3), .val (.int k1), .val (.int k2), .val (.int k3), .val (.ref b219), .val (.int kA.toInt32), .val (.int kB.toInt32), .unset, .unset, .unset, .unset, .unset, .unset, .unset, .unset, .unset, .unset, .unset, .unset] [(.int v1)]))
    refine Go.st (fun _ => XS.istore X223.here C.hx rfl (hb C.hby at_43) rfl (l' := #[.val (.int v1), .val (.int v2), .val (.int v3), .val (.int k1), .val (.int k2), .val (.int k3), .val (.ref b219), .val (.int kA.toInt32), .val (.int kB.toInt32), .val (.int v1), .unset, .unset, .unset, .unset, .unset, .unset, .unset, .unset, .unset, .unset, .unset]) rfl) ?_
    show Go p e below s n0 _ _ _ (T223.setTop (mkF m 45 #[.val (.int v1), .val (.int v2), .val (.int v3), .val (.int k1), .val (.int k2), .val (.int k3), .val (.ref b219), .val (.int kA.toInt32), .val (.int kB.toInt32), .val (.int v1), .unset, .unset, .unset, .unset, .unset, .unset, .unset, .unset, .unset, .unset, .unset] []))
    refine Go.st (fun _ => XS.aload X223.here C.hx rfl (hb C.hby at_45) rfl rfl) ?_
    show Go p e below s n0 _ _ _ (T223.setTop (mkF m 47 #[.val (.int v1), .val (.int v2), .val (.int v3), .val (.int k1), .val (.int k2), .val (.int k3), .val (.ref b219), .val (.int kA.toInt32), .val (.int kB.toInt32), .val (.int v1), .unset, .unset, .unset, .unset, .unset, .unset, .unset, .unset, .unset, .unset, .unset] [(.ref b219)]))
    refine Go.callV C X223 (W := 0) (argsL := []) (rest := []) (a := b219) (BB223).1 (wd 39 rfl) (wd 40 rfl) (wd 42 rfl) (wd 41 rfl) (wd 2 rfl) (wd 43 rfl) (by decide) rfl (con_key l Z a0 hw n0 h223 X223.size b219 a1_220 a2_220 a3_220 (bN3 4 kA kB) (bO2 4 kA kB) [v1, v2, 0] _ _ BB223) (by decide) (by decide) rfl (lenOf pd_7 rfl) (Nat.le_of_ble_eq_true rfl) rfl at_47 (by decide) (by decide) (fun T224 h224 v224 X224 hQ224 => ?_)
    obtain ⟨rfl, hh224⟩ := hQ224
    rw [hh224] at X224
    show Go p e below s n0 _ _ _ (T224.setTop (mkF m 50 #[.val (.int v1), .val (.int v2), .val (.int v3), .val (.int k1), .val (.int k2), .val (.int k3), .val (.ref b219), .val (.int kA.toInt32), .val (.int kB.toInt32), .val (.int v1), .unset, .unset, .unset, .unset, .unset, .unset, .unset, .unset, .unset, .unset, .unset] [(.int kA.toInt32)]))
    refine Go.st (fun _ => XS.istore X224.here C.hx rfl (hb C.hby at_50) rfl (l' := #[.val (.int v1), .val (.int v2), .val (.int v3), .val (.int k1), .val (.int k2), .val (.int k3), .val (.ref b219), .val (.int kA.toInt32), .val (.int kB.toInt32), .val (.int v1), .val (.int kA.toInt32), .unset, .unset, .unset, .unset, .unset, .unset, .unset, .unset, .unset, .unset]) rfl) ?_
    show Go p e below s n0 _ _ _ (T224.setTop (mkF m 52 #[.val (.int v1), .val (.int v2), .val (.int v3), .val (.int k1), .val (.int k2), .val (.int k3), .val (.ref b219), .val (.int kA.toInt32), .val (.int kB.toInt32), .val (.int v1), .val (.int kA.toInt32), .unset, .unset, .unset, .unset, .unset, .unset, .unset, .unset, .unset, .unset] []))
    refine Go.st (fun _ => XS.iload X224.here C.hx rfl (hb C.hby at_52) rfl) ?_
    show Go p e below s n0 _ _ _ (T224.setTop (mkF m 54 #[.val (.int v1), .val (.int v2), .val (.int v3), .val (.int k1), .val (.int k2), .val (.int k3), .val (.ref b219), .val (.int kA.toInt32), .val (.int kB.toInt32), .val (.int v1), .val (.int kA.toInt32), .unset, .unset, .unset, .unset, .unset, .unset, .unset, .unset, .unset, .unset] [(.int kA.toInt32)]))
    refine Go.st (fun _ => XS.iload X224.here C.hx rfl (hb C.hby at_54) rfl) ?_
    show Go p e below s n0 _ _ _ (T224.setTop (mkF m 56 #[.val (.int v1), .val (.int v2), .val (.int v3), .val (.int k1), .val (.int k2), .val (.int k3), .val (.ref b219), .val (.int kA.toInt32), .val (.int kB.toInt32), .val (.int v1), .val (.int kA.toInt32), .unset, .unset, .unset, .unset, .unset, .unset, .unset, .unset, .unset, .unset] [(.int kB.toInt32), (.int kA.toInt32)]))
    refine Go.callS C X224 (W := 0) (argsL := [(.int kA.toInt32), (.int kB.toInt32)]) (rest := []) (wd 44 rfl) (wd 45 rfl) (wd 46 rfl) (wd 47 rfl) (by decide) (con_min l Z a0 hw n0 h223 X224.size kA.toInt32 kB.toInt32) (by decide) (by decide) rfl (lenOf pd_8 rfl) (Nat.le_of_ble_eq_true rfl) rfl at_56 (by decide) (by decide) (fun T225 h225 v225 X225 hQ225 => ?_)
    obtain ⟨rfl, hh225⟩ := hQ225
    rw [hh225] at X225
    rw [(show mnF kA.toInt32 kB.toInt32 = kA.toInt32 from by unfold mnF; rw [if_neg (fun u => by have := (ltI hB4 hA4).mp u; omega)])]
    show Go p e below s n0 _ _ _ (T225.setTop (mkF m 59 #[.val (.int v1), .val (.int v2), .val (.int v3), .val (.int k1), .val (.int k2), .val (.int k3), .val (.ref b219), .val (.int kA.toInt32), .val (.int kB.toInt32), .val (.int v1), .val (.int kA.toInt32), .unset, .unset, .unset, .unset, .unset, .unset, .unset, .unset, .unset, .unset] [(.int kA.toInt32)]))
    refine Go.st (fun _ => XS.istore X225.here C.hx rfl (hb C.hby at_59) rfl (l' := #[.val (.int v1), .val (.int v2), .val (.int v3), .val (.int k1), .val (.int k2), .val (.int k3), .val (.ref b219), .val (.int kA.toInt32), .val (.int kB.toInt32), .val (.int v1), .val (.int kA.toInt32), .val (.int kA.toInt32), .unset, .unset, .unset, .unset, .unset, .unset, .unset, .unset, .unset]) rfl) ?_
    show Go p e below s n0 _ _ _ (T225.setTop (mkF m 61 #[.val (.int v1), .val (.int v2), .val (.int v3), .val (.int k1), .val (.int k2), .val (.int k3), .val (.ref b219), .val (.int kA.toInt32), .val (.int kB.toInt32), .val (.int v1), .val (.int kA.toInt32), .val (.int kA.toInt32), .unset, .unset, .unset, .unset, .unset, .unset, .unset, .unset, .unset] []))
    refine Go.st (fun _ => XS.iload X225.here C.hx rfl (hb C.hby at_61) rfl) ?_
    show Go p e below s n0 _ _ _ (T225.setTop (mkF m 63 #[.val (.int v1), .val (.int v2), .val (.int v3), .val (.int k1), .val (.int k2), .val (.int k3), .val (.ref b219), .val (.int kA.toInt32), .val (.int kB.toInt32), .val (.int v1), .val (.int kA.toInt32), .val (.int kA.toInt32), .unset, .unset, .unset, .unset, .unset, .unset, .unset, .unset, .unset] [(.int kA.toInt32)]))
    refine Go.st (fun _ => XS.iload X225.here C.hx rfl (hb C.hby at_63) rfl) ?_
    show Go p e below s n0 _ _ _ (T225.setTop (mkF m 65 #[.val (.int v1), .val (.int v2), .val (.int v3), .val (.int k1), .val (.int k2), .val (.int k3), .val (.ref b219), .val (.int kA.toInt32), .val (.int kB.toInt32), .val (.int v1), .val (.int kA.toInt32), .val (.int kA.toInt32), .unset, .unset, .unset, .unset, .unset, .unset, .unset, .unset, .unset] [(.int kB.toInt32), (.int kA.toInt32)]))
    refine Go.icmp_ge C X225 (pc' := 91) at_65 (by decide) (by decide) (fun hc => by first | exact absurd hc hABz | exact absurd hABz hc) (fun _ => ?_)
    show Go p e below s n0 _ _ _ (T225.setTop (mkF m 68 #[.val (.int v1), .val (.int v2), .val (.int v3), .val (.int k1), .val (.int k2), .val (.int k3), .val (.ref b219), .val (.int kA.toInt32), .val (.int kB.toInt32), .val (.int v1), .val (.int kA.toInt32), .val (.int kA.toInt32), .unset, .unset, .unset, .unset, .unset, .unset, .unset, .unset, .unset] []))
    refine Go.st (fun _ => XS.iload X225.here C.hx rfl (hb C.hby at_68) rfl) ?_
    show Go p e below s n0 _ _ _ (T225.setTop (mkF m 70 #[.val (.int v1), .val (.int v2), .val (.int v3), .val (.int k1), .val (.int k2), .val (.int k3), .val (.ref b219), .val (.int kA.toInt32), .val (.int kB.toInt32), .val (.int v1), .val (.int kA.toInt32), .val (.int kA.toInt32), .unset, .unset, .unset, .unset, .unset, .unset, .unset, .unset, .unset] [(.int v1)]))
    refine Go.st (fun _ => XS.iloadN X225.here C.hx rfl (hb C.hby at_70) rfl) ?_
    show Go p e below s n0 _ _ _ (T225.setTop (mkF m 71 #[.val (.int v1), .val (.int v2), .val (.int v3), .val (.int k1), .val (.int k2), .val (.int k3), .val (.ref b219), .val (.int kA.toInt32), .val (.int kB.toInt32), .val (.int v1), .val (.int kA.toInt32), .val (.int kA.toInt32), .unset, .unset, .unset, .unset, .unset, .unset, .unset, .unset, .unset] [(.int v1), (.int v1)]))
    refine Go.icmp_ne C X225 (pc' := 78) at_71 (by decide) (by decide) (fun hc => by first | exact absurd hc rfl | exact absurd rfl hc) (fun _ => ?_)
    show Go p e below s n0 _ _ _ (T225.setTop (mkF m 74 #[.val (.int v1), .val (.int v2), .val (.int v3), .val (.int k1), .val (.int k2), .val (.int k3), .val (.ref b219), .val (.int kA.toInt32), .val (.int kB.toInt32), .val (.int v1), .val (.int kA.toInt32), .val (.int kA.toInt32), .unset, .unset, .unset, .unset, .unset, .unset, .unset, .unset, .unset] []))
    refine Go.st (fun _ => XS.iconst X225.here C.hx rfl (hb C.hby at_74)) ?_
    show Go p e below s n0 _ _ _ (T225.setTop (mkF m 75 #[.val (.int v1), .val (.int v2), .val (.int v3), .val (.int k1), .val (.int k2), .val (.int k3), .val (.ref b219), .val (.int kA.toInt32), .val (.int kB.toInt32), .val (.int v1), .val (.int kA.toInt32), .val (.int kA.toInt32), .unset, .unset, .unset, .unset, .unset, .unset, .unset, .unset, .unset] [(.int (1 : Int32))]))
    refine Go.st (fun _ => XS.goto X225.here C.hx rfl (pc0 := 75) (pc' := 79) rfl (hb C.hby at_75) (by decide) (by decide)) ?_
    show Go p e below s n0 _ _ _ (T225.setTop (mkF m 79 #[.val (.int v1), .val (.int v2), .val (.int v3), .val (.int k1), .val (.int k2), .val (.int k3), .val (.ref b219), .val (.int kA.toInt32), .val (.int kB.toInt32), .val (.int v1), .val (.int kA.toInt32), .val (.int kA.toInt32), .unset, .unset, .unset, .unset, .unset, .unset, .unset, .unset, .unset] [(.int (1 : Int32))]))
    refine Go.st (fun _ => XS.istore X225.here C.hx rfl (hb C.hby at_79) rfl (l' := #[.val (.int v1), .val (.int v2), .val (.int v3), .val (.int k1), .val (.int k2), .val (.int k3), .val (.ref b219), .val (.int kA.toInt32), .val (.int kB.toInt32), .val (.int v1), .val (.int kA.toInt32), .val (.int kA.toInt32), .val (.int (1 : Int32)), .unset, .unset, .unset, .unset, .unset, .unset, .unset, .unset]) rfl) ?_
    show Go p e below s n0 _ _ _ (T225.setTop (mkF m 81 #[.val (.int v1), .val (.int v2), .val (.int v3), .val (.int k1), .val (.int k2), .val (.int k3), .val (.ref b219), .val (.int kA.toInt32), .val (.int kB.toInt32), .val (.int v1), .val (.int kA.toInt32), .val (.int kA.toInt32), .val (.int (1 : Int32)), .unset, .unset, .unset, .unset, .unset, .unset, .unset, .unset] []))
    refine Go.st (fun _ => XS.iloadN X225.here C.hx rfl (hb C.hby at_81) rfl) ?_
    show Go p e below s n0 _ _ _ (T225.setTop (mkF m 82 #[.val (.int v1), .val (.int v2), .val (.int v3), .val (.int k1), .val (.int k2), .val (.int k3), .val (.ref b219), .val (.int kA.toInt32), .val (.int kB.toInt32), .val (.int v1), .val (.int kA.toInt32), .val (.int kA.toInt32), .val (.int (1 : Int32)), .unset, .unset, .unset, .unset, .unset, .unset, .unset, .unset] [(.int v2)]))
    refine Go.st (fun _ => XS.istore X225.here C.hx rfl (hb C.hby at_82) rfl (l' := #[.val (.int v1), .val (.int v2), .val (.int v3), .val (.int k1), .val (.int k2), .val (.int k3), .val (.ref b219), .val (.int kA.toInt32), .val (.int kB.toInt32), .val (.int v1), .val (.int kA.toInt32), .val (.int kA.toInt32), .val (.int (1 : Int32)), .val (.int v2), .unset, .unset, .unset, .unset, .unset, .unset, .unset]) rfl) ?_
    show Go p e below s n0 _ _ _ (T225.setTop (mkF m 84 #[.val (.int v1), .val (.int v2), .val (.int v3), .val (.int k1), .val (.int k2), .val (.int k3), .val (.ref b219), .val (.int kA.toInt32), .val (.int kB.toInt32), .val (.int v1), .val (.int kA.toInt32), .val (.int kA.toInt32), .val (.int (1 : Int32)), .val (.int v2), .unset, .unset, .unset, .unset, .unset, .unset, .unset] []))
    refine Go.st (fun _ => XS.iload X225.here C.hx rfl (hb C.hby at_84) rfl) ?_
    show Go p e below s n0 _ _ _ (T225.setTop (mkF m 86 #[.val (.int v1), .val (.int v2), .val (.int v3), .val (.int k1), .val (.int k2), .val (.int k3), .val (.ref b219), .val (.int kA.toInt32), .val (.int kB.toInt32), .val (.int v1), .val (.int kA.toInt32), .val (.int kA.toInt32), .val (.int (1 : Int32)), .val (.int v2), .unset, .unset, .unset, .unset, .unset, .unset, .unset] [(.int kB.toInt32)]))
    refine Go.st (fun _ => XS.istore X225.here C.hx rfl (hb C.hby at_86) rfl (l' := #[.val (.int v1), .val (.int v2), .val (.int v3), .val (.int k1), .val (.int k2), .val (.int k3), .val (.ref b219), .val (.int kA.toInt32), .val (.int kB.toInt32), .val (.int v1), .val (.int kA.toInt32), .val (.int kA.toInt32), .val (.int (1 : Int32)), .val (.int v2), .val (.int kB.toInt32), .unset, .unset, .unset, .unset, .unset, .unset]) rfl) ?_
    show Go p e below s n0 _ _ _ (T225.setTop (mkF m 88 #[.val (.int v1), .val (.int v2), .val (.int v3), .val (.int k1), .val (.int k2), .val (.int k3), .val (.ref b219), .val (.int kA.toInt32), .val (.int kB.toInt32), .val (.int v1), .val (.int kA.toInt32), .val (.int kA.toInt32), .val (.int (1 : Int32)), .val (.int v2), .val (.int kB.toInt32), .unset, .unset, .unset, .unset, .unset, .unset] []))
    refine Go.st (fun _ => XS.goto X225.here C.hx rfl (pc0 := 88) (pc' := 159) rfl (hb C.hby at_88) (by decide) (by decide)) ?_
    show Go p e below s n0 _ _ _ (T225.setTop (mkF m 159 #[.val (.int v1), .val (.int v2), .val (.int v3), .val (.int k1), .val (.int k2), .val (.int k3), .val (.ref b219), .val (.int kA.toInt32), .val (.int kB.toInt32), .val (.int v1), .val (.int kA.toInt32), .val (.int kA.toInt32), .val (.int (1 : Int32)), .val (.int v2), .val (.int kB.toInt32), .unset, .unset, .unset, .unset, .unset, .unset] []))
    refine Go.st (fun _ => XS.iload X225.here C.hx rfl (hb C.hby at_159) rfl) ?_
    show Go p e below s n0 _ _ _ (T225.setTop (mkF m 161 #[.val (.int v1), .val (.int v2), .val (.int v3), .val (.int k1), .val (.int k2), .val (.int k3), .val (.ref b219), .val (.int kA.toInt32), .val (.int kB.toInt32), .val (.int v1), .val (.int kA.toInt32), .val (.int kA.toInt32), .val (.int (1 : Int32)), .val (.int v2), .val (.int kB.toInt32), .unset, .unset, .unset, .unset, .unset, .unset] [(.int (1 : Int32))]))
    refine Go.if_eq C X225 (pc' := 175) at_161 (by decide) (by decide) (fun hc => absurd hc (by decide)) (fun _ => ?_)
    show Go p e below s n0 _ _ _ (T225.setTop (mkF m 164 #[.val (.int v1), .val (.int v2), .val (.int v3), .val (.int k1), .val (.int k2), .val (.int k3), .val (.ref b219), .val (.int kA.toInt32), .val (.int kB.toInt32), .val (.int v1), .val (.int kA.toInt32), .val (.int kA.toInt32), .val (.int (1 : Int32)), .val (.int v2), .val (.int kB.toInt32), .unset, .unset, .unset, .unset, .unset, .unset] []))
    refine Go.st (fun _ => XS.iload X225.here C.hx rfl (hb C.hby at_164) rfl) ?_
    show Go p e below s n0 _ _ _ (T225.setTop (mkF m 166 #[.val (.int v1), .val (.int v2), .val (.int v3), .val (.int k1), .val (.int k2), .val (.int k3), .val (.ref b219), .val (.int kA.toInt32), .val (.int kB.toInt32), .val (.int v1), .val (.int kA.toInt32), .val (.int kA.toInt32), .val (.int (1 : Int32)), .val (.int v2), .val (.int kB.toInt32), .unset, .unset, .unset, .unset, .unset, .unset] [(.int kA.toInt32)]))
    refine Go.st (fun _ => XS.iload X225.here C.hx rfl (hb C.hby at_166) rfl) ?_
    show Go p e below s n0 _ _ _ (T225.setTop (mkF m 168 #[.val (.int v1), .val (.int v2), .val (.int v3), .val (.int k1), .val (.int k2), .val (.int k3), .val (.ref b219), .val (.int kA.toInt32), .val (.int kB.toInt32), .val (.int v1), .val (.int kA.toInt32), .val (.int kA.toInt32), .val (.int (1 : Int32)), .val (.int v2), .val (.int kB.toInt32), .unset, .unset, .unset, .unset, .unset, .unset] [(.int kA.toInt32), (.int kA.toInt32)]))
    refine Go.icmp_ne C X225 (pc' := 175) at_168 (by decide) (by decide) (fun hc => by first | exact absurd hc rfl | exact absurd rfl hc) (fun _ => ?_)
    show Go p e below s n0 _ _ _ (T225.setTop (mkF m 171 #[.val (.int v1), .val (.int v2), .val (.int v3), .val (.int k1), .val (.int k2), .val (.int k3), .val (.ref b219), .val (.int kA.toInt32), .val (.int kB.toInt32), .val (.int v1), .val (.int kA.toInt32), .val (.int kA.toInt32), .val (.int (1 : Int32)), .val (.int v2), .val (.int kB.toInt32), .unset, .unset, .unset, .unset, .unset, .unset] []))
    refine Go.st (fun _ => XS.iconst X225.here C.hx rfl (hb C.hby at_171)) ?_
    show Go p e below s n0 _ _ _ (T225.setTop (mkF m 172 #[.val (.int v1), .val (.int v2), .val (.int v3), .val (.int k1), .val (.int k2), .val (.int k3), .val (.ref b219), .val (.int kA.toInt32), .val (.int kB.toInt32), .val (.int v1), .val (.int kA.toInt32), .val (.int kA.toInt32), .val (.int (1 : Int32)), .val (.int v2), .val (.int kB.toInt32), .unset, .unset, .unset, .unset, .unset, .unset] [(.int (1 : Int32))]))
    refine Go.st (fun _ => XS.goto X225.here C.hx rfl (pc0 := 172) (pc' := 176) rfl (hb C.hby at_172) (by decide) (by decide)) ?_
    show Go p e below s n0 _ _ _ (T225.setTop (mkF m 176 #[.val (.int v1), .val (.int v2), .val (.int v3), .val (.int k1), .val (.int k2), .val (.int k3), .val (.ref b219), .val (.int kA.toInt32), .val (.int kB.toInt32), .val (.int v1), .val (.int kA.toInt32), .val (.int kA.toInt32), .val (.int (1 : Int32)), .val (.int v2), .val (.int kB.toInt32), .unset, .unset, .unset, .unset, .unset, .unset] [(.int (1 : Int32))]))
    refine Go.st (fun _ => XS.istore X225.here C.hx rfl (hb C.hby at_176) rfl (l' := #[.val (.int v1), .val (.int v2), .val (.int v3), .val (.int k1), .val (.int k2), .val (.int k3), .val (.ref b219), .val (.int kA.toInt32), .val (.int kB.toInt32), .val (.int v1), .val (.int kA.toInt32), .val (.int kA.toInt32), .val (.int (1 : Int32)), .val (.int v2), .val (.int kB.toInt32), .unset, .unset, .unset, .unset, .unset, .unset]) rfl) ?_
    show Go p e below s n0 _ _ _ (T225.setTop (mkF m 178 #[.val (.int v1), .val (.int v2), .val (.int v3), .val (.int k1), .val (.int k2), .val (.int k3), .val (.ref b219), .val (.int kA.toInt32), .val (.int kB.toInt32), .val (.int v1), .val (.int kA.toInt32), .val (.int kA.toInt32), .val (.int (1 : Int32)), .val (.int v2), .val (.int kB.toInt32), .unset, .unset, .unset, .unset, .unset, .unset] []))
    refine Go.st (fun _ => XS.iload X225.here C.hx rfl (hb C.hby at_178) rfl) ?_
    show Go p e below s n0 _ _ _ (T225.setTop (mkF m 180 #[.val (.int v1), .val (.int v2), .val (.int v3), .val (.int k1), .val (.int k2), .val (.int k3), .val (.ref b219), .val (.int kA.toInt32), .val (.int kB.toInt32), .val (.int v1), .val (.int kA.toInt32), .val (.int kA.toInt32), .val (.int (1 : Int32)), .val (.int v2), .val (.int kB.toInt32), .unset, .unset, .unset, .unset, .unset, .unset] [(.int kA.toInt32)]))
    refine Go.st (fun _ => XS.iload X225.here C.hx rfl (hb C.hby at_180) rfl) ?_
    show Go p e below s n0 _ _ _ (T225.setTop (mkF m 182 #[.val (.int v1), .val (.int v2), .val (.int v3), .val (.int k1), .val (.int k2), .val (.int k3), .val (.ref b219), .val (.int kA.toInt32), .val (.int kB.toInt32), .val (.int v1), .val (.int kA.toInt32), .val (.int kA.toInt32), .val (.int (1 : Int32)), .val (.int v2), .val (.int kB.toInt32), .unset, .unset, .unset, .unset, .unset, .unset] [(.int k3), (.int kA.toInt32)]))
    refine Go.st (fun _ => XS.iconst X225.here C.hx rfl (hb C.hby at_182)) ?_
    show Go p e below s n0 _ _ _ (T225.setTop (mkF m 183 #[.val (.int v1), .val (.int v2), .val (.int v3), .val (.int k1), .val (.int k2), .val (.int k3), .val (.ref b219), .val (.int kA.toInt32), .val (.int kB.toInt32), .val (.int v1), .val (.int kA.toInt32), .val (.int kA.toInt32), .val (.int (1 : Int32)), .val (.int v2), .val (.int kB.toInt32), .unset, .unset, .unset, .unset, .unset, .unset] [(.int (3 : Int32)), (.int k3), (.int kA.toInt32)]))
    refine Go.st (fun _ => XS.iand X225.here C.hx rfl (hb C.hby at_183) rfl) ?_
    show Go p e below s n0 _ _ _ (T225.setTop (mkF m 184 #[.val (.int v1), .val (.int v2), .val (.int v3), .val (.int k1), .val (.int k2), .val (.int k3), .val (.ref b219), .val (.int kA.toInt32), .val (.int kB.toInt32), .val (.int v1), .val (.int kA.toInt32), .val (.int kA.toInt32), .val (.int (1 : Int32)), .val (.int v2), .val (.int kB.toInt32), .unset, .unset, .unset, .unset, .unset, .unset] [(.int (k3 &&& (3 : Int32))), (.int kA.toInt32)]))
    refine Go.st (fun _ => XS.iconst X225.here C.hx rfl (hb C.hby at_184)) ?_
    show Go p e below s n0 _ _ _ (T225.setTop (mkF m 185 #[.val (.int v1), .val (.int v2), .val (.int v3), .val (.int k1), .val (.int k2), .val (.int k3), .val (.ref b219), .val (.int kA.toInt32), .val (.int kB.toInt32), .val (.int v1), .val (.int kA.toInt32), .val (.int kA.toInt32), .val (.int (1 : Int32)), .val (.int v2), .val (.int kB.toInt32), .unset, .unset, .unset, .unset, .unset, .unset] [(.int (4 : Int32)), (.int (k3 &&& (3 : Int32))), (.int kA.toInt32)]))
    refine Go.st (fun _ => XS.iload X225.here C.hx rfl (hb C.hby at_185) rfl) ?_
    show Go p e below s n0 _ _ _ (T225.setTop (mkF m 187 #[.val (.int v1), .val (.int v2), .val (.int v3), .val (.int k1), .val (.int k2), .val (.int k3), .val (.ref b219), .val (.int kA.toInt32), .val (.int kB.toInt32), .val (.int v1), .val (.int kA.toInt32), .val (.int kA.toInt32), .val (.int (1 : Int32)), .val (.int v2), .val (.int kB.toInt32), .unset, .unset, .unset, .unset, .unset, .unset] [(.int kA.toInt32), (.int (4 : Int32)), (.int (k3 &&& (3 : Int32))), (.int kA.toInt32)]))
    refine Go.st (fun _ => XS.isub X225.here C.hx rfl (hb C.hby at_187) rfl) ?_
    show Go p e below s n0 _ _ _ (T225.setTop (mkF m 188 #[.val (.int v1), .val (.int v2), .val (.int v3), .val (.int k1), .val (.int k2), .val (.int k3), .val (.ref b219), .val (.int kA.toInt32), .val (.int kB.toInt32), .val (.int v1), .val (.int kA.toInt32), .val (.int kA.toInt32), .val (.int (1 : Int32)), .val (.int v2), .val (.int kB.toInt32), .unset, .unset, .unset, .unset, .unset, .unset] [(.int ((4 : Int32) - kA.toInt32)), (.int (k3 &&& (3 : Int32))), (.int kA.toInt32)]))
    refine Go.irem C X225 (sub4 hA4) at_188 ?_
    show Go p e below s n0 _ _ _ (T225.setTop (mkF m 189 #[.val (.int v1), .val (.int v2), .val (.int v3), .val (.int k1), .val (.int k2), .val (.int k3), .val (.ref b219), .val (.int kA.toInt32), .val (.int kB.toInt32), .val (.int v1), .val (.int kA.toInt32), .val (.int kA.toInt32), .val (.int (1 : Int32)), .val (.int v2), .val (.int kB.toInt32), .unset, .unset, .unset, .unset, .unset, .unset] [(.int ((k3 &&& (3 : Int32)) % ((4 : Int32) - kA.toInt32))), (.int kA.toInt32)]))
    refine Go.st (fun _ => XS.iadd X225.here C.hx rfl (hb C.hby at_189) rfl) ?_
    show Go p e below s n0 _ _ _ (T225.setTop (mkF m 190 #[.val (.int v1), .val (.int v2), .val (.int v3), .val (.int k1), .val (.int k2), .val (.int k3), .val (.ref b219), .val (.int kA.toInt32), .val (.int kB.toInt32), .val (.int v1), .val (.int kA.toInt32), .val (.int kA.toInt32), .val (.int (1 : Int32)), .val (.int v2), .val (.int kB.toInt32), .unset, .unset, .unset, .unset, .unset, .unset] [(.int (kA.toInt32 + ((k3 &&& (3 : Int32)) % ((4 : Int32) - kA.toInt32))))]))
    generalize hg_kc : (kA.toInt32 + ((k3 &&& (3 : Int32)) % ((4 : Int32) - kA.toInt32))) = kc
    refine Go.st (fun _ => XS.istore X225.here C.hx rfl (hb C.hby at_190) rfl (l' := #[.val (.int v1), .val (.int v2), .val (.int v3), .val (.int k1), .val (.int k2), .val (.int k3), .val (.ref b219), .val (.int kA.toInt32), .val (.int kB.toInt32), .val (.int v1), .val (.int kA.toInt32), .val (.int kA.toInt32), .val (.int (1 : Int32)), .val (.int v2), .val (.int kB.toInt32), .val (.int kc), .unset, .unset, .unset, .unset, .unset]) rfl) ?_
    obtain ⟨kC, hmC, hC4, rfl⟩ := kcOk hA4 hg_kc
    have hB := allB ⟨kA, hA4⟩ ⟨kB, hB4⟩ ⟨kC, hC4⟩ (by show (if kA < kB then kA else kB) ≤ kC; rw [if_pos hAB]; exact hmC)
    simp only [chkB, Bool.and_eq_true, decide_eq_true_eq] at hB
    obtain ⟨⟨⟨⟨⟨⟨⟨⟨⟨⟨fv4, fv5⟩, fv6⟩, fb4⟩, fb5⟩, fb6⟩, fk1⟩, fe1⟩, fk2⟩, fe2⟩, fk3⟩ := hB
    replace fv4 := vB_ok fv4
    replace fv5 := vB_ok fv5
    replace fv6 := vB_ok fv6
    have lO4 : (bO4 4 kA kB kC).length = 3 := by unfold bO4; rw [List.length_set]; exact lO2
    have rk : bRk kA kB = kB := by unfold bRk; rw [if_pos hAB]
    have re : bRe kA kB = 1 := by unfold bRe; rw [if_pos hAB]
    rw [rk] at fk1 fe1 fk2 fe2
    rw [re] at fe1 fe2
    by_cases hRC : kB < kC
    · rw [if_pos hRC] at fk1 fe1 fk2 fe2
      rw [if_pos hRC] at fe1 fe2
      unfold bK2 bK1 bK0 at fk3
      unfold bK2 bK1 bK0 at fk2
      unfold bK1 bK0 at fk1
      rw [fk0] at fk1 fk2 fk3
      rw [fk1] at fk2 fk3
      rw [fk2] at fk3
      show Go p e below s n0 _ _ _ (T225.setTop (mkF m 192 #[.val (.int v1), .val (.int v2), .val (.int v3), .val (.int k1), .val (.int k2), .val (.int k3), .val (.ref b219), .val (.int kA.toInt32), .val (.int kB.toInt32), .val (.int v1), .val (.int kA.toInt32), .val (.int kA.toInt32), .val (.int (1 : Int32)), .val (.int v2), .val (.int kB.toInt32), .val (.int kC.toInt32), .unset, .unset, .unset, .unset, .unset] []))
      refine Go.st (fun _ => XS.aload X225.here C.hx rfl (hb C.hby at_192) rfl rfl) ?_
      show Go p e below s n0 _ _ _ (T225.setTop (mkF m 194 #[.val (.int v1), .val (.int v2), .val (.int v3), .val (.int k1), .val (.int k2), .val (.int k3), .val (.ref b219), .val (.int kA.toInt32), .val (.int kB.toInt32), .val (.int v1), .val (.int kA.toInt32), .val (.int kA.toInt32), .val (.int (1 : Int32)), .val (.int v2), .val (.int kB.toInt32), .val (.int kC.toInt32), .unset, .unset, .unset, .unset, .unset] [(.ref b219)]))
      refine Go.st (fun _ => XS.iloadN X225.here C.hx rfl (hb C.hby at_194) rfl) ?_
      show Go p e below s n0 _ _ _ (T225.setTop (mkF m 195 #[.val (.int v1), .val (.int v2), .val (.int v3), .val (.int k1), .val (.int k2), .val (.int k3), .val (.ref b219), .val (.int kA.toInt32), .val (.int kB.toInt32), .val (.int v1), .val (.int kA.toInt32), .val (.int kA.toInt32), .val (.int (1 : Int32)), .val (.int v2), .val (.int kB.toInt32), .val (.int kC.toInt32), .unset, .unset, .unset, .unset, .unset] [(.int v3), (.ref b219)]))
      refine Go.st (fun _ => XS.iload X225.here C.hx rfl (hb C.hby at_195) rfl) ?_
      show Go p e below s n0 _ _ _ (T225.setTop (mkF m 197 #[.val (.int v1), .val (.int v2), .val (.int v3), .val (.int k1), .val (.int k2), .val (.int k3), .val (.ref b219), .val (.int kA.toInt32), .val (.int kB.toInt32), .val (.int v1), .val (.int kA.toInt32), .val (.int kA.toInt32), .val (.int (1 : Int32)), .val (.int v2), .val (.int kB.toInt32), .val (.int kC.toInt32), .unset, .unset, .unset, .unset, .unset] [(.int kC.toInt32), (.int v3), (.ref b219)]))
      refine Go.callV C X225 (W := 0) (argsL := [(.int v3), (.int kC.toInt32)]) (rest := []) (a := b219) (BB223).1 (wd 29 rfl) (wd 30 rfl) (wd 32 rfl) (wd 31 rfl) (wd 2 rfl) (wd 33 rfl) (by decide) rfl (con_put l Z a0 hw n0 h223 X225.size b219 a1_220 a2_220 a3_220 (bN3 4 kA kB) (bO2 4 kA kB) [v1, v2, 0] 2 ((kA : Nat).toInt32) v3 kC.toInt32 kC DD220 (by decide) rfl lO2 rfl (by rw [fa3]; exact hC4) (by rw [fa3]; decide) BB223) (by decide) (by decide) rfl (lenOf pd_5 rfl) (Nat.le_of_ble_eq_true rfl) rfl at_197 (by decide) (by decide) (fun T230 h230 v230 X230 hQ230 => ?_)
      obtain ⟨rfl, BA230⟩ := hQ230
      have BB230 : BQ Z h230 b219 a1_220 a2_220 a3_220 (bN4 4 kA kB kC) (bO4 4 kA kB kC) [v1, v2, v3] (3 : Nat).toInt32 (kA : Nat).toInt32 := BA230
      show Go p e below s n0 _ _ _ (T230.setTop (mkF m 200 #[.val (.int v1), .val (.int v2), .val (.int v3), .val (.int k1), .val (.int k2), .val (.int k3), .val (.ref b219), .val (.int kA.toInt32), .val (.int kB.toInt32), .val (.int v1), .val (.int kA.toInt32), .val (.int kA.toInt32), .val (.int (1 : Int32)), .val (.int v2), .val (.int kB.toInt32), .val (.int kC.toInt32), .unset, .unset, .unset, .unset, .unset] []))
      refine Go.st (fun _ => XS.aload X230.here C.hx rfl (hb C.hby at_200) rfl rfl) ?_
      show Go p e below s n0 _ _ _ (T230.setTop (mkF m 202 #[.val (.int v1), .val (.int v2), .val (.int v3), .val (.int k1), .val (.int k2), .val (.int k3), .val (.ref b219), .val (.int kA.toInt32), .val (.int kB.toInt32), .val (.int v1), .val (.int kA.toInt32), .val (.int kA.toInt32), .val (.int (1 : Int32)), .val (.int v2), .val (.int kB.toInt32), .val (.int kC.toInt32), .unset, .unset, .unset, .unset, .unset] [(.ref b219)]))
      refine Go.callV C X230 (W := 0) (argsL := []) (rest := []) (a := b219) (BB230).1 (wd 34 rfl) (wd 35 rfl) (wd 37 rfl) (wd 36 rfl) (wd 2 rfl) (wd 38 rfl) (by decide) rfl (con_take l Z a0 hw n0 h230 X230.size b219 a1_220 a2_220 a3_220 (bN4 4 kA kB kC) (bO4 4 kA kB kC) [v1, v2, v3] ((3 : Nat).toInt32) ((kA : Nat).toInt32) kA DD220 rfl lO4 (by rw [fb4]; decide) fv4 rfl (by rw [fb4]; omega) BB230) (by decide) (by decide) rfl (lenOf pd_6 rfl) (Nat.le_of_ble_eq_true rfl) rfl at_202 (by decide) (by decide) (fun T231 h231 v231 X231 hQ231 => ?_)
      obtain ⟨rfl, BA231⟩ := hQ231
      rw [tkV_hit (e := 1) fb4 fk1 (by omega) fe1]
      have BB231 : BQ Z h231 b219 a1_220 a2_220 a3_220 (bN5 4 kA kB kC) (bO4 4 kA kB kC) [v1, v2, v3] (3 : Nat).toInt32 (kB : Nat).toInt32 := by have u := BA231; rw [fk1] at u; rw [show bN5 4 kA kB kC = tkN (bN4 4 kA kB kC) (bO4 4 kA kB kC) kA from by unfold bN5 bK0; rw [fk0]]; exact u
      show Go p e below s n0 _ _ _ (T231.setTop (mkF m 205 #[.val (.int v1), .val (.int v2), .val (.int v3), .val (.int k1), .val (.int k2), .val (.int k3), .val (.ref b219), .val (.int kA.toInt32), .val (.int kB.toInt32), .val (.int v1), .val (.int kA.toInt32), .val (.int kA.toInt32), .val (.int (1 : Int32)), .val (.int v2), .val (.int kB.toInt32), .val (.int kC.toInt32), .unset, .unset, .unset, .unset, .unset] [(.int v2)]))
      refine Go.st (fun _ => XS.istore X231.here C.hx rfl (hb C.hby at_205) rfl (l' := #[.val (.int v1), .val (.int v2), .val (.int v3), .val (.int k1), .val (.int k2), .val (.int k3), .val (.ref b219), .val (.int kA.toInt32), .val (.int kB.toInt32), .val (.int v1), .val (.int kA.toInt32), .val (.int kA.toInt32), .val (.int (1 : Int32)), .val (.int v2), .val (.int kB.toInt32), .val (.int kC.toInt32), .val (.int v2), .unset, .unset, .unset, .unset]) rfl) ?_
      show Go p e below s n0 _ _ _ (T231.setTop (mkF m 207 #[.val (.int v1), .val (.int v2), .val (.int v3), .val (.int k1), .val (.int k2), .val (.int k3), .val (.ref b219), .val (.int kA.toInt32), .val (.int kB.toInt32), .val (.int v1), .val (.int kA.toInt32), .val (.int kA.toInt32), .val (.int (1 : Int32)), .val (.int v2), .val (.int kB.toInt32), .val (.int kC.toInt32), .val (.int v2), .unset, .unset, .unset, .unset] []))
      refine Go.st (fun _ => XS.aload X231.here C.hx rfl (hb C.hby at_207) rfl rfl) ?_
      show Go p e below s n0 _ _ _ (T231.setTop (mkF m 209 #[.val (.int v1), .val (.int v2), .val (.int v3), .val (.int k1), .val (.int k2), .val (.int k3), .val (.ref b219), .val (.int kA.toInt32), .val (.int kB.toInt32), .val (.int v1), .val (.int kA.toInt32), .val (.int kA.toInt32), .val (.int (1 : Int32)), .val (.int v2), .val (.int kB.toInt32), .val (.int kC.toInt32), .val (.int v2), .unset, .unset, .unset, .unset] [(.ref b219)]))
      refine Go.callV C X231 (W := 0) (argsL := []) (rest := []) (a := b219) (BB231).1 (wd 39 rfl) (wd 40 rfl) (wd 42 rfl) (wd 41 rfl) (wd 2 rfl) (wd 43 rfl) (by decide) rfl (con_key l Z a0 hw n0 h231 X231.size b219 a1_220 a2_220 a3_220 (bN5 4 kA kB kC) (bO4 4 kA kB kC) [v1, v2, v3] _ _ BB231) (by decide) (by decide) rfl (lenOf pd_7 rfl) (Nat.le_of_ble_eq_true rfl) rfl at_209 (by decide) (by decide) (fun T232 h232 v232 X232 hQ232 => ?_)
      obtain ⟨rfl, hh232⟩ := hQ232
      rw [hh232] at X232
      show Go p e below s n0 _ _ _ (T232.setTop (mkF m 212 #[.val (.int v1), .val (.int v2), .val (.int v3), .val (.int k1), .val (.int k2), .val (.int k3), .val (.ref b219), .val (.int kA.toInt32), .val (.int kB.toInt32), .val (.int v1), .val (.int kA.toInt32), .val (.int kA.toInt32), .val (.int (1 : Int32)), .val (.int v2), .val (.int kB.toInt32), .val (.int kC.toInt32), .val (.int v2), .unset, .unset, .unset, .unset] [(.int kB.toInt32)]))
      refine Go.st (fun _ => XS.istore X232.here C.hx rfl (hb C.hby at_212) rfl (l' := #[.val (.int v1), .val (.int v2), .val (.int v3), .val (.int k1), .val (.int k2), .val (.int k3), .val (.ref b219), .val (.int kA.toInt32), .val (.int kB.toInt32), .val (.int v1), .val (.int kA.toInt32), .val (.int kA.toInt32), .val (.int (1 : Int32)), .val (.int v2), .val (.int kB.toInt32), .val (.int kC.toInt32), .val (.int v2), .val (.int kB.toInt32), .unset, .unset, .unset]) rfl) ?_
      show Go p e below s n0 _ _ _ (T232.setTop (mkF m 214 #[.val (.int v1), .val (.int v2), .val (.int v3), .val (.int k1), .val (.int k2), .val (.int k3), .val (.ref b219), .val (.int kA.toInt32), .val (.int kB.toInt32), .val (.int v1), .val (.int kA.toInt32), .val (.int kA.toInt32), .val (.int (1 : Int32)), .val (.int v2), .val (.int kB.toInt32), .val (.int kC.toInt32), .val (.int v2), .val (.int kB.toInt32), .unset, .unset, .unset] []))
      refine Go.st (fun _ => XS.aload X232.here C.hx rfl (hb C.hby at_214) rfl rfl) ?_
      show Go p e below s n0 _ _ _ (T232.setTop (mkF m 216 #[.val (.int v1), .val (.int v2), .val (.int v3), .val (.int k1), .val (.int k2), .val (.int k3), .val (.ref b219), .val (.int kA.toInt32), .val (.int kB.toInt32), .val (.int v1), .val (.int kA.toInt32), .val (.int kA.toInt32), .val (.int (1 : Int32)), .val (.int v2), .val (.int kB.toInt32), .val (.int kC.toInt32), .val (.int v2), .val (.int kB.toInt32), .unset, .unset, .unset] [(.ref b219)]))
      refine Go.callV C X232 (W := 0) (argsL := []) (rest := []) (a := b219) (BB231).1 (wd 34 rfl) (wd 35 rfl) (wd 37 rfl) (wd 36 rfl) (wd 2 rfl) (wd 38 rfl) (by decide) rfl (con_take l Z a0 hw n0 h231 X232.size b219 a1_220 a2_220 a3_220 (bN5 4 kA kB kC) (bO4 4 kA kB kC) [v1, v2, v3] ((3 : Nat).toInt32) ((kB : Nat).toInt32) kB DD220 rfl lO4 (by rw [fb5]; decide) fv5 rfl (by rw [fb5]; omega) BB231) (by decide) (by decide) rfl (lenOf pd_6 rfl) (Nat.le_of_ble_eq_true rfl) rfl at_216 (by decide) (by decide) (fun T233 h233 v233 X233 hQ233 => ?_)
      obtain ⟨rfl, BA233⟩ := hQ233
      rw [tkV_hit (e := 2) fb5 fk2 (by omega) fe2]
      have BB233 : BQ Z h233 b219 a1_220 a2_220 a3_220 (bN6 4 kA kB kC) (bO4 4 kA kB kC) [v1, v2, v3] (3 : Nat).toInt32 (kC : Nat).toInt32 := by have u := BA233; rw [fk2] at u; rw [show bN6 4 kA kB kC = tkN (bN5 4 kA kB kC) (bO4 4 kA kB kC) kB from by unfold bN6 bK1 bK0; rw [fk0, fk1]]; exact u
      show Go p e below s n0 _ _ _ (T233.setTop (mkF m 219 #[.val (.int v1), .val (.int v2), .val (.int v3), .val (.int k1), .val (.int k2), .val (.int k3), .val (.ref b219), .val (.int kA.toInt32), .val (.int kB.toInt32), .val (.int v1), .val (.int kA.toInt32), .val (.int kA.toInt32), .val (.int (1 : Int32)), .val (.int v2), .val (.int kB.toInt32), .val (.int kC.toInt32), .val (.int v2), .val (.int kB.toInt32), .unset, .unset, .unset] [(.int v3)]))
      refine Go.st (fun _ => XS.istore X233.here C.hx rfl (hb C.hby at_219) rfl (l' := #[.val (.int v1), .val (.int v2), .val (.int v3), .val (.int k1), .val (.int k2), .val (.int k3), .val (.ref b219), .val (.int kA.toInt32), .val (.int kB.toInt32), .val (.int v1), .val (.int kA.toInt32), .val (.int kA.toInt32), .val (.int (1 : Int32)), .val (.int v2), .val (.int kB.toInt32), .val (.int kC.toInt32), .val (.int v2), .val (.int kB.toInt32), .val (.int v3), .unset, .unset]) rfl) ?_
      show Go p e below s n0 _ _ _ (T233.setTop (mkF m 221 #[.val (.int v1), .val (.int v2), .val (.int v3), .val (.int k1), .val (.int k2), .val (.int k3), .val (.ref b219), .val (.int kA.toInt32), .val (.int kB.toInt32), .val (.int v1), .val (.int kA.toInt32), .val (.int kA.toInt32), .val (.int (1 : Int32)), .val (.int v2), .val (.int kB.toInt32), .val (.int kC.toInt32), .val (.int v2), .val (.int kB.toInt32), .val (.int v3), .unset, .unset] []))
      refine Go.st (fun _ => XS.aload X233.here C.hx rfl (hb C.hby at_221) rfl rfl) ?_
      show Go p e below s n0 _ _ _ (T233.setTop (mkF m 223 #[.val (.int v1), .val (.int v2), .val (.int v3), .val (.int k1), .val (.int k2), .val (.int k3), .val (.ref b219), .val (.int kA.toInt32), .val (.int kB.toInt32), .val (.int v1), .val (.int kA.toInt32), .val (.int kA.toInt32), .val (.int (1 : Int32)), .val (.int v2), .val (.int kB.toInt32), .val (.int kC.toInt32), .val (.int v2), .val (.int kB.toInt32), .val (.int v3), .unset, .unset] [(.ref b219)]))
      refine Go.callV C X233 (W := 0) (argsL := []) (rest := []) (a := b219) (BB233).1 (wd 39 rfl) (wd 40 rfl) (wd 42 rfl) (wd 41 rfl) (wd 2 rfl) (wd 43 rfl) (by decide) rfl (con_key l Z a0 hw n0 h233 X233.size b219 a1_220 a2_220 a3_220 (bN6 4 kA kB kC) (bO4 4 kA kB kC) [v1, v2, v3] _ _ BB233) (by decide) (by decide) rfl (lenOf pd_7 rfl) (Nat.le_of_ble_eq_true rfl) rfl at_223 (by decide) (by decide) (fun T234 h234 v234 X234 hQ234 => ?_)
      obtain ⟨rfl, hh234⟩ := hQ234
      rw [hh234] at X234
      show Go p e below s n0 _ _ _ (T234.setTop (mkF m 226 #[.val (.int v1), .val (.int v2), .val (.int v3), .val (.int k1), .val (.int k2), .val (.int k3), .val (.ref b219), .val (.int kA.toInt32), .val (.int kB.toInt32), .val (.int v1), .val (.int kA.toInt32), .val (.int kA.toInt32), .val (.int (1 : Int32)), .val (.int v2), .val (.int kB.toInt32), .val (.int kC.toInt32), .val (.int v2), .val (.int kB.toInt32), .val (.int v3), .unset, .unset] [(.int kC.toInt32)]))
      refine Go.st (fun _ => XS.istore X234.here C.hx rfl (hb C.hby at_226) rfl (l' := #[.val (.int v1), .val (.int v2), .val (.int v3), .val (.int k1), .val (.int k2), .val (.int k3), .val (.ref b219), .val (.int kA.toInt32), .val (.int kB.toInt32), .val (.int v1), .val (.int kA.toInt32), .val (.int kA.toInt32), .val (.int (1 : Int32)), .val (.int v2), .val (.int kB.toInt32), .val (.int kC.toInt32), .val (.int v2), .val (.int kB.toInt32), .val (.int v3), .val (.int kC.toInt32), .unset]) rfl) ?_
      show Go p e below s n0 _ _ _ (T234.setTop (mkF m 228 #[.val (.int v1), .val (.int v2), .val (.int v3), .val (.int k1), .val (.int k2), .val (.int k3), .val (.ref b219), .val (.int kA.toInt32), .val (.int kB.toInt32), .val (.int v1), .val (.int kA.toInt32), .val (.int kA.toInt32), .val (.int (1 : Int32)), .val (.int v2), .val (.int kB.toInt32), .val (.int kC.toInt32), .val (.int v2), .val (.int kB.toInt32), .val (.int v3), .val (.int kC.toInt32), .unset] []))
      refine Go.st (fun _ => XS.aload X234.here C.hx rfl (hb C.hby at_228) rfl rfl) ?_
      show Go p e below s n0 _ _ _ (T234.setTop (mkF m 230 #[.val (.int v1), .val (.int v2), .val (.int v3), .val (.int k1), .val (.int k2), .val (.int k3), .val (.ref b219), .val (.int kA.toInt32), .val (.int kB.toInt32), .val (.int v1), .val (.int kA.toInt32), .val (.int kA.toInt32), .val (.int (1 : Int32)), .val (.int v2), .val (.int kB.toInt32), .val (.int kC.toInt32), .val (.int v2), .val (.int kB.toInt32), .val (.int v3), .val (.int kC.toInt32), .unset] [(.ref b219)]))
      refine Go.callV C X234 (W := 0) (argsL := []) (rest := []) (a := b219) (BB233).1 (wd 34 rfl) (wd 35 rfl) (wd 37 rfl) (wd 36 rfl) (wd 2 rfl) (wd 38 rfl) (by decide) rfl (con_take l Z a0 hw n0 h233 X234.size b219 a1_220 a2_220 a3_220 (bN6 4 kA kB kC) (bO4 4 kA kB kC) [v1, v2, v3] ((3 : Nat).toInt32) ((kC : Nat).toInt32) kC DD220 rfl lO4 (by rw [fb6]; decide) fv6 rfl (by rw [fb6]; omega) BB233) (by decide) (by decide) rfl (lenOf pd_6 rfl) (Nat.le_of_ble_eq_true rfl) rfl at_230 (by decide) (by decide) (fun T235 h235 v235 X235 hQ235 => ?_)
      obtain ⟨rfl, BA235⟩ := hQ235
      rw [tkV_end fb6 fk3]
      have BB235 : BQ Z h235 b219 a1_220 a2_220 a3_220 (tkN (bN6 4 kA kB kC) (bO4 4 kA kB kC) kC) (bO4 4 kA kB kC) [v1, v2, v3] (3 : Nat).toInt32 (4 : Nat).toInt32 := by have u := BA235; rw [fk3] at u; exact u
      show Go p e below s n0 _ _ _ (T235.setTop (mkF m 233 #[.val (.int v1), .val (.int v2), .val (.int v3), .val (.int k1), .val (.int k2), .val (.int k3), .val (.ref b219), .val (.int kA.toInt32), .val (.int kB.toInt32), .val (.int v1), .val (.int kA.toInt32), .val (.int kA.toInt32), .val (.int (1 : Int32)), .val (.int v2), .val (.int kB.toInt32), .val (.int kC.toInt32), .val (.int v2), .val (.int kB.toInt32), .val (.int v3), .val (.int kC.toInt32), .unset] [(.int (-1 : Int32))]))
      refine Go.st (fun _ => XS.istore X235.here C.hx rfl (hb C.hby at_233) rfl (l' := #[.val (.int v1), .val (.int v2), .val (.int v3), .val (.int k1), .val (.int k2), .val (.int k3), .val (.ref b219), .val (.int kA.toInt32), .val (.int kB.toInt32), .val (.int v1), .val (.int kA.toInt32), .val (.int kA.toInt32), .val (.int (1 : Int32)), .val (.int v2), .val (.int kB.toInt32), .val (.int kC.toInt32), .val (.int v2), .val (.int kB.toInt32), .val (.int v3), .val (.int kC.toInt32), .val (.int (-1 : Int32))]) rfl) ?_
      show Go p e below s n0 _ _ _ (T235.setTop (mkF m 235 #[.val (.int v1), .val (.int v2), .val (.int v3), .val (.int k1), .val (.int k2), .val (.int k3), .val (.ref b219), .val (.int kA.toInt32), .val (.int kB.toInt32), .val (.int v1), .val (.int kA.toInt32), .val (.int kA.toInt32), .val (.int (1 : Int32)), .val (.int v2), .val (.int kB.toInt32), .val (.int kC.toInt32), .val (.int v2), .val (.int kB.toInt32), .val (.int v3), .val (.int kC.toInt32), .val (.int (-1 : Int32))] []))
      refine Go.st (fun _ => XS.iload X235.here C.hx rfl (hb C.hby at_235) rfl) ?_
      show Go p e below s n0 _ _ _ (T235.setTop (mkF m 237 #[.val (.int v1), .val (.int v2), .val (.int v3), .val (.int k1), .val (.int k2), .val (.int k3), .val (.ref b219), .val (.int kA.toInt32), .val (.int kB.toInt32), .val (.int v1), .val (.int kA.toInt32), .val (.int kA.toInt32), .val (.int (1 : Int32)), .val (.int v2), .val (.int kB.toInt32), .val (.int kC.toInt32), .val (.int v2), .val (.int kB.toInt32), .val (.int v3), .val (.int kC.toInt32), .val (.int (-1 : Int32))] [(.int (1 : Int32))]))
      refine Go.if_eq C X235 (pc' := 271) at_237 (by decide) (by decide) (fun hc => absurd hc (by decide)) (fun _ => ?_)
      show Go p e below s n0 _ _ _ (T235.setTop (mkF m 240 #[.val (.int v1), .val (.int v2), .val (.int v3), .val (.int k1), .val (.int k2), .val (.int k3), .val (.ref b219), .val (.int kA.toInt32), .val (.int kB.toInt32), .val (.int v1), .val (.int kA.toInt32), .val (.int kA.toInt32), .val (.int (1 : Int32)), .val (.int v2), .val (.int kB.toInt32), .val (.int kC.toInt32), .val (.int v2), .val (.int kB.toInt32), .val (.int v3), .val (.int kC.toInt32), .val (.int (-1 : Int32))] []))
      refine Go.st (fun _ => XS.iload X235.here C.hx rfl (hb C.hby at_240) rfl) ?_
      show Go p e below s n0 _ _ _ (T235.setTop (mkF m 242 #[.val (.int v1), .val (.int v2), .val (.int v3), .val (.int k1), .val (.int k2), .val (.int k3), .val (.ref b219), .val (.int kA.toInt32), .val (.int kB.toInt32), .val (.int v1), .val (.int kA.toInt32), .val (.int kA.toInt32), .val (.int (1 : Int32)), .val (.int v2), .val (.int kB.toInt32), .val (.int kC.toInt32), .val (.int v2), .val (.int kB.toInt32), .val (.int v3), .val (.int kC.toInt32), .val (.int (-1 : Int32))] [(.int v2)]))
      refine Go.st (fun _ => XS.iload X235.here C.hx rfl (hb C.hby at_242) rfl) ?_
      show Go p e below s n0 _ _ _ (T235.setTop (mkF m 244 #[.val (.int v1), .val (.int v2), .val (.int v3), .val (.int k1), .val (.int k2), .val (.int k3), .val (.ref b219), .val (.int kA.toInt32), .val (.int kB.toInt32), .val (.int v1), .val (.int kA.toInt32), .val (.int kA.toInt32), .val (.int (1 : Int32)), .val (.int v2), .val (.int kB.toInt32), .val (.int kC.toInt32), .val (.int v2), .val (.int kB.toInt32), .val (.int v3), .val (.int kC.toInt32), .val (.int (-1 : Int32))] [(.int kB.toInt32), (.int v2)]))
      refine Go.st (fun _ => XS.iload X235.here C.hx rfl (hb C.hby at_244) rfl) ?_
      show Go p e below s n0 _ _ _ (T235.setTop (mkF m 246 #[.val (.int v1), .val (.int v2), .val (.int v3), .val (.int k1), .val (.int k2), .val (.int k3), .val (.ref b219), .val (.int kA.toInt32), .val (.int kB.toInt32), .val (.int v1), .val (.int kA.toInt32), .val (.int kA.toInt32), .val (.int (1 : Int32)), .val (.int v2), .val (.int kB.toInt32), .val (.int kC.toInt32), .val (.int v2), .val (.int kB.toInt32), .val (.int v3), .val (.int kC.toInt32), .val (.int (-1 : Int32))] [(.int v3), (.int kB.toInt32), (.int v2)]))
      refine Go.st (fun _ => XS.iload X235.here C.hx rfl (hb C.hby at_246) rfl) ?_
      show Go p e below s n0 _ _ _ (T235.setTop (mkF m 248 #[.val (.int v1), .val (.int v2), .val (.int v3), .val (.int k1), .val (.int k2), .val (.int k3), .val (.ref b219), .val (.int kA.toInt32), .val (.int kB.toInt32), .val (.int v1), .val (.int kA.toInt32), .val (.int kA.toInt32), .val (.int (1 : Int32)), .val (.int v2), .val (.int kB.toInt32), .val (.int kC.toInt32), .val (.int v2), .val (.int kB.toInt32), .val (.int v3), .val (.int kC.toInt32), .val (.int (-1 : Int32))] [(.int kC.toInt32), (.int v3), (.int kB.toInt32), (.int v2)]))
      refine Go.st (fun _ => XS.iload X235.here C.hx rfl (hb C.hby at_248) rfl) ?_
      show Go p e below s n0 _ _ _ (T235.setTop (mkF m 250 #[.val (.int v1), .val (.int v2), .val (.int v3), .val (.int k1), .val (.int k2), .val (.int k3), .val (.ref b219), .val (.int kA.toInt32), .val (.int kB.toInt32), .val (.int v1), .val (.int kA.toInt32), .val (.int kA.toInt32), .val (.int (1 : Int32)), .val (.int v2), .val (.int kB.toInt32), .val (.int kC.toInt32), .val (.int v2), .val (.int kB.toInt32), .val (.int v3), .val (.int kC.toInt32), .val (.int (-1 : Int32))] [(.int v2), (.int kC.toInt32), (.int v3), (.int kB.toInt32), (.int v2)]))
      refine Go.st (fun _ => XS.iload X235.here C.hx rfl (hb C.hby at_250) rfl) ?_
      show Go p e below s n0 _ _ _ (T235.setTop (mkF m 252 #[.val (.int v1), .val (.int v2), .val (.int v3), .val (.int k1), .val (.int k2), .val (.int k3), .val (.ref b219), .val (.int kA.toInt32), .val (.int kB.toInt32), .val (.int v1), .val (.int kA.toInt32), .val (.int kA.toInt32), .val (.int (1 : Int32)), .val (.int v2), .val (.int kB.toInt32), .val (.int kC.toInt32), .val (.int v2), .val (.int kB.toInt32), .val (.int v3), .val (.int kC.toInt32), .val (.int (-1 : Int32))] [(.int kB.toInt32), (.int v2), (.int kC.toInt32), (.int v3), (.int kB.toInt32), (.int v2)]))
      refine Go.st (fun _ => XS.iloadN X235.here C.hx rfl (hb C.hby at_252) rfl) ?_
      show Go p e below s n0 _ _ _ (T235.setTop (mkF m 253 #[.val (.int v1), .val (.int v2), .val (.int v3), .val (.int k1), .val (.int k2), .val (.int k3), .val (.ref b219), .val (.int kA.toInt32), .val (.int kB.toInt32), .val (.int v1), .val (.int kA.toInt32), .val (.int kA.toInt32), .val (.int (1 : Int32)), .val (.int v2), .val (.int kB.toInt32), .val (.int kC.toInt32), .val (.int v2), .val (.int kB.toInt32), .val (.int v3), .val (.int kC.toInt32), .val (.int (-1 : Int32))] [(.int v3), (.int kB.toInt32), (.int v2), (.int kC.toInt32), (.int v3), (.int kB.toInt32), (.int v2)]))
      refine Go.st (fun _ => XS.iload X235.here C.hx rfl (hb C.hby at_253) rfl) ?_
      show Go p e below s n0 _ _ _ (T235.setTop (mkF m 255 #[.val (.int v1), .val (.int v2), .val (.int v3), .val (.int k1), .val (.int k2), .val (.int k3), .val (.ref b219), .val (.int kA.toInt32), .val (.int kB.toInt32), .val (.int v1), .val (.int kA.toInt32), .val (.int kA.toInt32), .val (.int (1 : Int32)), .val (.int v2), .val (.int kB.toInt32), .val (.int kC.toInt32), .val (.int v2), .val (.int kB.toInt32), .val (.int v3), .val (.int kC.toInt32), .val (.int (-1 : Int32))] [(.int kC.toInt32), (.int v3), (.int kB.toInt32), (.int v2), (.int kC.toInt32), (.int v3), (.int kB.toInt32), (.int v2)]))
      refine Go.callS C X235 (W := 0) (argsL := [(.int v2), (.int kB.toInt32), (.int v3), (.int kC.toInt32), (.int v2), (.int kB.toInt32), (.int v3), (.int kC.toInt32)]) (rest := []) (wd 48 rfl) (wd 49 rfl) (wd 50 rfl) (wd 51 rfl) (by decide) (con_pair l Z a0 hw n0 h235 X235.size v2 kB.toInt32 v3 kC.toInt32 v2 kB.toInt32 v3 kC.toInt32) (by decide) (by decide) rfl (lenOf pd_9 rfl) (Nat.le_of_ble_eq_true rfl) rfl at_255 (by decide) (by decide) (fun T237 h237 v237 X237 hQ237 => ?_)
      obtain ⟨rfl, hh237⟩ := hQ237
      rw [hh237] at X237
      rw [show pairF v2 kB.toInt32 v3 kC.toInt32 v2 kB.toInt32 v3 kC.toInt32 = 1 from by simp [pairF, (ltI hB4 hC4).mpr hRC]]
      show Go p e below s n0 _ _ _ (T237.setTop (mkF m 258 #[.val (.int v1), .val (.int v2), .val (.int v3), .val (.int k1), .val (.int k2), .val (.int k3), .val (.ref b219), .val (.int kA.toInt32), .val (.int kB.toInt32), .val (.int v1), .val (.int kA.toInt32), .val (.int kA.toInt32), .val (.int (1 : Int32)), .val (.int v2), .val (.int kB.toInt32), .val (.int kC.toInt32), .val (.int v2), .val (.int kB.toInt32), .val (.int v3), .val (.int kC.toInt32), .val (.int (-1 : Int32))] [(.int (1 : Int32))]))
      refine Go.if_eq C X237 (pc' := 271) at_258 (by decide) (by decide) (fun hc => absurd hc (by decide)) (fun _ => ?_)
      show Go p e below s n0 _ _ _ (T237.setTop (mkF m 261 #[.val (.int v1), .val (.int v2), .val (.int v3), .val (.int k1), .val (.int k2), .val (.int k3), .val (.ref b219), .val (.int kA.toInt32), .val (.int kB.toInt32), .val (.int v1), .val (.int kA.toInt32), .val (.int kA.toInt32), .val (.int (1 : Int32)), .val (.int v2), .val (.int kB.toInt32), .val (.int kC.toInt32), .val (.int v2), .val (.int kB.toInt32), .val (.int v3), .val (.int kC.toInt32), .val (.int (-1 : Int32))] []))
      refine Go.st (fun _ => XS.iload X237.here C.hx rfl (hb C.hby at_261) rfl) ?_
      show Go p e below s n0 _ _ _ (T237.setTop (mkF m 263 #[.val (.int v1), .val (.int v2), .val (.int v3), .val (.int k1), .val (.int k2), .val (.int k3), .val (.ref b219), .val (.int kA.toInt32), .val (.int kB.toInt32), .val (.int v1), .val (.int kA.toInt32), .val (.int kA.toInt32), .val (.int (1 : Int32)), .val (.int v2), .val (.int kB.toInt32), .val (.int kC.toInt32), .val (.int v2), .val (.int kB.toInt32), .val (.int v3), .val (.int kC.toInt32), .val (.int (-1 : Int32))] [(.int (-1 : Int32))]))
      refine Go.st (fun _ => XS.iconst X237.here C.hx rfl (hb C.hby at_263)) ?_
      show Go p e below s n0 _ _ _ (T237.setTop (mkF m 264 #[.val (.int v1), .val (.int v2), .val (.int v3), .val (.int k1), .val (.int k2), .val (.int k3), .val (.ref b219), .val (.int kA.toInt32), .val (.int kB.toInt32), .val (.int v1), .val (.int kA.toInt32), .val (.int kA.toInt32), .val (.int (1 : Int32)), .val (.int v2), .val (.int kB.toInt32), .val (.int kC.toInt32), .val (.int v2), .val (.int kB.toInt32), .val (.int v3), .val (.int kC.toInt32), .val (.int (-1 : Int32))] [(.int (-1 : Int32)), (.int (-1 : Int32))]))
      refine Go.icmp_ne C X237 (pc' := 271) at_264 (by decide) (by decide) (fun hc => absurd hc (by decide)) (fun _ => ?_)
      show Go p e below s n0 _ _ _ (T237.setTop (mkF m 267 #[.val (.int v1), .val (.int v2), .val (.int v3), .val (.int k1), .val (.int k2), .val (.int k3), .val (.ref b219), .val (.int kA.toInt32), .val (.int kB.toInt32), .val (.int v1), .val (.int kA.toInt32), .val (.int kA.toInt32), .val (.int (1 : Int32)), .val (.int v2), .val (.int kB.toInt32), .val (.int kC.toInt32), .val (.int v2), .val (.int kB.toInt32), .val (.int v3), .val (.int kC.toInt32), .val (.int (-1 : Int32))] []))
      refine Go.st (fun _ => XS.iconst X237.here C.hx rfl (hb C.hby at_267)) ?_
      show Go p e below s n0 _ _ _ (T237.setTop (mkF m 268 #[.val (.int v1), .val (.int v2), .val (.int v3), .val (.int k1), .val (.int k2), .val (.int k3), .val (.ref b219), .val (.int kA.toInt32), .val (.int kB.toInt32), .val (.int v1), .val (.int kA.toInt32), .val (.int kA.toInt32), .val (.int (1 : Int32)), .val (.int v2), .val (.int kB.toInt32), .val (.int kC.toInt32), .val (.int v2), .val (.int kB.toInt32), .val (.int v3), .val (.int kC.toInt32), .val (.int (-1 : Int32))] [(.int (1 : Int32))]))
      refine Go.st (fun _ => XS.goto X237.here C.hx rfl (pc0 := 268) (pc' := 272) rfl (hb C.hby at_268) (by decide) (by decide)) ?_
      show Go p e below s n0 _ _ _ (T237.setTop (mkF m 272 #[.val (.int v1), .val (.int v2), .val (.int v3), .val (.int k1), .val (.int k2), .val (.int k3), .val (.ref b219), .val (.int kA.toInt32), .val (.int kB.toInt32), .val (.int v1), .val (.int kA.toInt32), .val (.int kA.toInt32), .val (.int (1 : Int32)), .val (.int v2), .val (.int kB.toInt32), .val (.int kC.toInt32), .val (.int v2), .val (.int kB.toInt32), .val (.int v3), .val (.int kC.toInt32), .val (.int (-1 : Int32))] [(.int (1 : Int32))]))
      exact Go.retZ C X237 (by decide) at_272 rfl (by decide) (by decide)
    · rw [if_neg hRC] at fk1 fe1 fk2 fe2
      rw [if_neg hRC] at fe1 fe2
      unfold bK2 bK1 bK0 at fk3
      unfold bK2 bK1 bK0 at fk2
      unfold bK1 bK0 at fk1
      rw [fk0] at fk1 fk2 fk3
      rw [fk1] at fk2 fk3
      rw [fk2] at fk3
      show Go p e below s n0 _ _ _ (T225.setTop (mkF m 192 #[.val (.int v1), .val (.int v2), .val (.int v3), .val (.int k1), .val (.int k2), .val (.int k3), .val (.ref b219), .val (.int kA.toInt32), .val (.int kB.toInt32), .val (.int v1), .val (.int kA.toInt32), .val (.int kA.toInt32), .val (.int (1 : Int32)), .val (.int v2), .val (.int kB.toInt32), .val (.int kC.toInt32), .unset, .unset, .unset, .unset, .unset] []))
      refine Go.st (fun _ => XS.aload X225.here C.hx rfl (hb C.hby at_192) rfl rfl) ?_
      show Go p e below s n0 _ _ _ (T225.setTop (mkF m 194 #[.val (.int v1), .val (.int v2), .val (.int v3), .val (.int k1), .val (.int k2), .val (.int k3), .val (.ref b219), .val (.int kA.toInt32), .val (.int kB.toInt32), .val (.int v1), .val (.int kA.toInt32), .val (.int kA.toInt32), .val (.int (1 : Int32)), .val (.int v2), .val (.int kB.toInt32), .val (.int kC.toInt32), .unset, .unset, .unset, .unset, .unset] [(.ref b219)]))
      refine Go.st (fun _ => XS.iloadN X225.here C.hx rfl (hb C.hby at_194) rfl) ?_
      show Go p e below s n0 _ _ _ (T225.setTop (mkF m 195 #[.val (.int v1), .val (.int v2), .val (.int v3), .val (.int k1), .val (.int k2), .val (.int k3), .val (.ref b219), .val (.int kA.toInt32), .val (.int kB.toInt32), .val (.int v1), .val (.int kA.toInt32), .val (.int kA.toInt32), .val (.int (1 : Int32)), .val (.int v2), .val (.int kB.toInt32), .val (.int kC.toInt32), .unset, .unset, .unset, .unset, .unset] [(.int v3), (.ref b219)]))
      refine Go.st (fun _ => XS.iload X225.here C.hx rfl (hb C.hby at_195) rfl) ?_
      show Go p e below s n0 _ _ _ (T225.setTop (mkF m 197 #[.val (.int v1), .val (.int v2), .val (.int v3), .val (.int k1), .val (.int k2), .val (.int k3), .val (.ref b219), .val (.int kA.toInt32), .val (.int kB.toInt32), .val (.int v1), .val (.int kA.toInt32), .val (.int kA.toInt32), .val (.int (1 : Int32)), .val (.int v2), .val (.int kB.toInt32), .val (.int kC.toInt32), .unset, .unset, .unset, .unset, .unset] [(.int kC.toInt32), (.int v3), (.ref b219)]))
      refine Go.callV C X225 (W := 0) (argsL := [(.int v3), (.int kC.toInt32)]) (rest := []) (a := b219) (BB223).1 (wd 29 rfl) (wd 30 rfl) (wd 32 rfl) (wd 31 rfl) (wd 2 rfl) (wd 33 rfl) (by decide) rfl (con_put l Z a0 hw n0 h223 X225.size b219 a1_220 a2_220 a3_220 (bN3 4 kA kB) (bO2 4 kA kB) [v1, v2, 0] 2 ((kA : Nat).toInt32) v3 kC.toInt32 kC DD220 (by decide) rfl lO2 rfl (by rw [fa3]; exact hC4) (by rw [fa3]; decide) BB223) (by decide) (by decide) rfl (lenOf pd_5 rfl) (Nat.le_of_ble_eq_true rfl) rfl at_197 (by decide) (by decide) (fun T240 h240 v240 X240 hQ240 => ?_)
      obtain ⟨rfl, BA240⟩ := hQ240
      have BB240 : BQ Z h240 b219 a1_220 a2_220 a3_220 (bN4 4 kA kB kC) (bO4 4 kA kB kC) [v1, v2, v3] (3 : Nat).toInt32 (kA : Nat).toInt32 := BA240
      show Go p e below s n0 _ _ _ (T240.setTop (mkF m 200 #[.val (.int v1), .val (.int v2), .val (.int v3), .val (.int k1), .val (.int k2), .val (.int k3), .val (.ref b219), .val (.int kA.toInt32), .val (.int kB.toInt32), .val (.int v1), .val (.int kA.toInt32), .val (.int kA.toInt32), .val (.int (1 : Int32)), .val (.int v2), .val (.int kB.toInt32), .val (.int kC.toInt32), .unset, .unset, .unset, .unset, .unset] []))
      refine Go.st (fun _ => XS.aload X240.here C.hx rfl (hb C.hby at_200) rfl rfl) ?_
      show Go p e below s n0 _ _ _ (T240.setTop (mkF m 202 #[.val (.int v1), .val (.int v2), .val (.int v3), .val (.int k1), .val (.int k2), .val (.int k3), .val (.ref b219), .val (.int kA.toInt32), .val (.int kB.toInt32), .val (.int v1), .val (.int kA.toInt32), .val (.int kA.toInt32), .val (.int (1 : Int32)), .val (.int v2), .val (.int kB.toInt32), .val (.int kC.toInt32), .unset, .unset, .unset, .unset, .unset] [(.ref b219)]))
      refine Go.callV C X240 (W := 0) (argsL := []) (rest := []) (a := b219) (BB240).1 (wd 34 rfl) (wd 35 rfl) (wd 37 rfl) (wd 36 rfl) (wd 2 rfl) (wd 38 rfl) (by decide) rfl (con_take l Z a0 hw n0 h240 X240.size b219 a1_220 a2_220 a3_220 (bN4 4 kA kB kC) (bO4 4 kA kB kC) [v1, v2, v3] ((3 : Nat).toInt32) ((kA : Nat).toInt32) kA DD220 rfl lO4 (by rw [fb4]; decide) fv4 rfl (by rw [fb4]; omega) BB240) (by decide) (by decide) rfl (lenOf pd_6 rfl) (Nat.le_of_ble_eq_true rfl) rfl at_202 (by decide) (by decide) (fun T241 h241 v241 X241 hQ241 => ?_)
      obtain ⟨rfl, BA241⟩ := hQ241
      rw [tkV_hit (e := 2) fb4 fk1 (by omega) fe1]
      have BB241 : BQ Z h241 b219 a1_220 a2_220 a3_220 (bN5 4 kA kB kC) (bO4 4 kA kB kC) [v1, v2, v3] (3 : Nat).toInt32 (kC : Nat).toInt32 := by have u := BA241; rw [fk1] at u; rw [show bN5 4 kA kB kC = tkN (bN4 4 kA kB kC) (bO4 4 kA kB kC) kA from by unfold bN5 bK0; rw [fk0]]; exact u
      show Go p e below s n0 _ _ _ (T241.setTop (mkF m 205 #[.val (.int v1), .val (.int v2), .val (.int v3), .val (.int k1), .val (.int k2), .val (.int k3), .val (.ref b219), .val (.int kA.toInt32), .val (.int kB.toInt32), .val (.int v1), .val (.int kA.toInt32), .val (.int kA.toInt32), .val (.int (1 : Int32)), .val (.int v2), .val (.int kB.toInt32), .val (.int kC.toInt32), .unset, .unset, .unset, .unset, .unset] [(.int v3)]))
      refine Go.st (fun _ => XS.istore X241.here C.hx rfl (hb C.hby at_205) rfl (l' := #[.val (.int v1), .val (.int v2), .val (.int v3), .val (.int k1), .val (.int k2), .val (.int k3), .val (.ref b219), .val (.int kA.toInt32), .val (.int kB.toInt32), .val (.int v1), .val (.int kA.toInt32), .val (.int kA.toInt32), .val (.int (1 : Int32)), .val (.int v2), .val (.int kB.toInt32), .val (.int kC.toInt32), .val (.int v3), .unset, .unset, .unset, .unset]) rfl) ?_
      show Go p e below s n0 _ _ _ (T241.setTop (mkF m 207 #[.val (.int v1), .val (.int v2), .val (.int v3), .val (.int k1), .val (.int k2), .val (.int k3), .val (.ref b219), .val (.int kA.toInt32), .val (.int kB.toInt32), .val (.int v1), .val (.int kA.toInt32), .val (.int kA.toInt32), .val (.int (1 : Int32)), .val (.int v2), .val (.int kB.toInt32), .val (.int kC.toInt32), .val (.int v3), .unset, .unset, .unset, .unset] []))
      refine Go.st (fun _ => XS.aload X241.here C.hx rfl (hb C.hby at_207) rfl rfl) ?_
      show Go p e below s n0 _ _ _ (T241.setTop (mkF m 209 #[.val (.int v1), .val (.int v2), .val (.int v3), .val (.int k1), .val (.int k2), .val (.int k3), .val (.ref b219), .val (.int kA.toInt32), .val (.int kB.toInt32), .val (.int v1), .val (.int kA.toInt32), .val (.int kA.toInt32), .val (.int (1 : Int32)), .val (.int v2), .val (.int kB.toInt32), .val (.int kC.toInt32), .val (.int v3), .unset, .unset, .unset, .unset] [(.ref b219)]))
      refine Go.callV C X241 (W := 0) (argsL := []) (rest := []) (a := b219) (BB241).1 (wd 39 rfl) (wd 40 rfl) (wd 42 rfl) (wd 41 rfl) (wd 2 rfl) (wd 43 rfl) (by decide) rfl (con_key l Z a0 hw n0 h241 X241.size b219 a1_220 a2_220 a3_220 (bN5 4 kA kB kC) (bO4 4 kA kB kC) [v1, v2, v3] _ _ BB241) (by decide) (by decide) rfl (lenOf pd_7 rfl) (Nat.le_of_ble_eq_true rfl) rfl at_209 (by decide) (by decide) (fun T242 h242 v242 X242 hQ242 => ?_)
      obtain ⟨rfl, hh242⟩ := hQ242
      rw [hh242] at X242
      show Go p e below s n0 _ _ _ (T242.setTop (mkF m 212 #[.val (.int v1), .val (.int v2), .val (.int v3), .val (.int k1), .val (.int k2), .val (.int k3), .val (.ref b219), .val (.int kA.toInt32), .val (.int kB.toInt32), .val (.int v1), .val (.int kA.toInt32), .val (.int kA.toInt32), .val (.int (1 : Int32)), .val (.int v2), .val (.int kB.toInt32), .val (.int kC.toInt32), .val (.int v3), .unset, .unset, .unset, .unset] [(.int kC.toInt32)]))
      refine Go.st (fun _ => XS.istore X242.here C.hx rfl (hb C.hby at_212) rfl (l' := #[.val (.int v1), .val (.int v2), .val (.int v3), .val (.int k1), .val (.int k2), .val (.int k3), .val (.ref b219), .val (.int kA.toInt32), .val (.int kB.toInt32), .val (.int v1), .val (.int kA.toInt32), .val (.int kA.toInt32), .val (.int (1 : Int32)), .val (.int v2), .val (.int kB.toInt32), .val (.int kC.toInt32), .val (.int v3), .val (.int kC.toInt32), .unset, .unset, .unset]) rfl) ?_
      show Go p e below s n0 _ _ _ (T242.setTop (mkF m 214 #[.val (.int v1), .val (.int v2), .val (.int v3), .val (.int k1), .val (.int k2), .val (.int k3), .val (.ref b219), .val (.int kA.toInt32), .val (.int kB.toInt32), .val (.int v1), .val (.int kA.toInt32), .val (.int kA.toInt32), .val (.int (1 : Int32)), .val (.int v2), .val (.int kB.toInt32), .val (.int kC.toInt32), .val (.int v3), .val (.int kC.toInt32), .unset, .unset, .unset] []))
      refine Go.st (fun _ => XS.aload X242.here C.hx rfl (hb C.hby at_214) rfl rfl) ?_
      show Go p e below s n0 _ _ _ (T242.setTop (mkF m 216 #[.val (.int v1), .val (.int v2), .val (.int v3), .val (.int k1), .val (.int k2), .val (.int k3), .val (.ref b219), .val (.int kA.toInt32), .val (.int kB.toInt32), .val (.int v1), .val (.int kA.toInt32), .val (.int kA.toInt32), .val (.int (1 : Int32)), .val (.int v2), .val (.int kB.toInt32), .val (.int kC.toInt32), .val (.int v3), .val (.int kC.toInt32), .unset, .unset, .unset] [(.ref b219)]))
      refine Go.callV C X242 (W := 0) (argsL := []) (rest := []) (a := b219) (BB241).1 (wd 34 rfl) (wd 35 rfl) (wd 37 rfl) (wd 36 rfl) (wd 2 rfl) (wd 38 rfl) (by decide) rfl (con_take l Z a0 hw n0 h241 X242.size b219 a1_220 a2_220 a3_220 (bN5 4 kA kB kC) (bO4 4 kA kB kC) [v1, v2, v3] ((3 : Nat).toInt32) ((kC : Nat).toInt32) kC DD220 rfl lO4 (by rw [fb5]; decide) fv5 rfl (by rw [fb5]; omega) BB241) (by decide) (by decide) rfl (lenOf pd_6 rfl) (Nat.le_of_ble_eq_true rfl) rfl at_216 (by decide) (by decide) (fun T243 h243 v243 X243 hQ243 => ?_)
      obtain ⟨rfl, BA243⟩ := hQ243
      rw [tkV_hit (e := 1) fb5 fk2 (by omega) fe2]
      have BB243 : BQ Z h243 b219 a1_220 a2_220 a3_220 (bN6 4 kA kB kC) (bO4 4 kA kB kC) [v1, v2, v3] (3 : Nat).toInt32 (kB : Nat).toInt32 := by have u := BA243; rw [fk2] at u; rw [show bN6 4 kA kB kC = tkN (bN5 4 kA kB kC) (bO4 4 kA kB kC) kC from by unfold bN6 bK1 bK0; rw [fk0, fk1]]; exact u
      show Go p e below s n0 _ _ _ (T243.setTop (mkF m 219 #[.val (.int v1), .val (.int v2), .val (.int v3), .val (.int k1), .val (.int k2), .val (.int k3), .val (.ref b219), .val (.int kA.toInt32), .val (.int kB.toInt32), .val (.int v1), .val (.int kA.toInt32), .val (.int kA.toInt32), .val (.int (1 : Int32)), .val (.int v2), .val (.int kB.toInt32), .val (.int kC.toInt32), .val (.int v3), .val (.int kC.toInt32), .unset, .unset, .unset] [(.int v2)]))
      refine Go.st (fun _ => XS.istore X243.here C.hx rfl (hb C.hby at_219) rfl (l' := #[.val (.int v1), .val (.int v2), .val (.int v3), .val (.int k1), .val (.int k2), .val (.int k3), .val (.ref b219), .val (.int kA.toInt32), .val (.int kB.toInt32), .val (.int v1), .val (.int kA.toInt32), .val (.int kA.toInt32), .val (.int (1 : Int32)), .val (.int v2), .val (.int kB.toInt32), .val (.int kC.toInt32), .val (.int v3), .val (.int kC.toInt32), .val (.int v2), .unset, .unset]) rfl) ?_
      show Go p e below s n0 _ _ _ (T243.setTop (mkF m 221 #[.val (.int v1), .val (.int v2), .val (.int v3), .val (.int k1), .val (.int k2), .val (.int k3), .val (.ref b219), .val (.int kA.toInt32), .val (.int kB.toInt32), .val (.int v1), .val (.int kA.toInt32), .val (.int kA.toInt32), .val (.int (1 : Int32)), .val (.int v2), .val (.int kB.toInt32), .val (.int kC.toInt32), .val (.int v3), .val (.int kC.toInt32), .val (.int v2), .unset, .unset] []))
      refine Go.st (fun _ => XS.aload X243.here C.hx rfl (hb C.hby at_221) rfl rfl) ?_
      show Go p e below s n0 _ _ _ (T243.setTop (mkF m 223 #[.val (.int v1), .val (.int v2), .val (.int v3), .val (.int k1), .val (.int k2), .val (.int k3), .val (.ref b219), .val (.int kA.toInt32), .val (.int kB.toInt32), .val (.int v1), .val (.int kA.toInt32), .val (.int kA.toInt32), .val (.int (1 : Int32)), .val (.int v2), .val (.int kB.toInt32), .val (.int kC.toInt32), .val (.int v3), .val (.int kC.toInt32), .val (.int v2), .unset, .unset] [(.ref b219)]))
      refine Go.callV C X243 (W := 0) (argsL := []) (rest := []) (a := b219) (BB243).1 (wd 39 rfl) (wd 40 rfl) (wd 42 rfl) (wd 41 rfl) (wd 2 rfl) (wd 43 rfl) (by decide) rfl (con_key l Z a0 hw n0 h243 X243.size b219 a1_220 a2_220 a3_220 (bN6 4 kA kB kC) (bO4 4 kA kB kC) [v1, v2, v3] _ _ BB243) (by decide) (by decide) rfl (lenOf pd_7 rfl) (Nat.le_of_ble_eq_true rfl) rfl at_223 (by decide) (by decide) (fun T244 h244 v244 X244 hQ244 => ?_)
      obtain ⟨rfl, hh244⟩ := hQ244
      rw [hh244] at X244
      show Go p e below s n0 _ _ _ (T244.setTop (mkF m 226 #[.val (.int v1), .val (.int v2), .val (.int v3), .val (.int k1), .val (.int k2), .val (.int k3), .val (.ref b219), .val (.int kA.toInt32), .val (.int kB.toInt32), .val (.int v1), .val (.int kA.toInt32), .val (.int kA.toInt32), .val (.int (1 : Int32)), .val (.int v2), .val (.int kB.toInt32), .val (.int kC.toInt32), .val (.int v3), .val (.int kC.toInt32), .val (.int v2), .unset, .unset] [(.int kB.toInt32)]))
      refine Go.st (fun _ => XS.istore X244.here C.hx rfl (hb C.hby at_226) rfl (l' := #[.val (.int v1), .val (.int v2), .val (.int v3), .val (.int k1), .val (.int k2), .val (.int k3), .val (.ref b219), .val (.int kA.toInt32), .val (.int kB.toInt32), .val (.int v1), .val (.int kA.toInt32), .val (.int kA.toInt32), .val (.int (1 : Int32)), .val (.int v2), .val (.int kB.toInt32), .val (.int kC.toInt32), .val (.int v3), .val (.int kC.toInt32), .val (.int v2), .val (.int kB.toInt32), .unset]) rfl) ?_
      show Go p e below s n0 _ _ _ (T244.setTop (mkF m 228 #[.val (.int v1), .val (.int v2), .val (.int v3), .val (.int k1), .val (.int k2), .val (.int k3), .val (.ref b219), .val (.int kA.toInt32), .val (.int kB.toInt32), .val (.int v1), .val (.int kA.toInt32), .val (.int kA.toInt32), .val (.int (1 : Int32)), .val (.int v2), .val (.int kB.toInt32), .val (.int kC.toInt32), .val (.int v3), .val (.int kC.toInt32), .val (.int v2), .val (.int kB.toInt32), .unset] []))
      refine Go.st (fun _ => XS.aload X244.here C.hx rfl (hb C.hby at_228) rfl rfl) ?_
      show Go p e below s n0 _ _ _ (T244.setTop (mkF m 230 #[.val (.int v1), .val (.int v2), .val (.int v3), .val (.int k1), .val (.int k2), .val (.int k3), .val (.ref b219), .val (.int kA.toInt32), .val (.int kB.toInt32), .val (.int v1), .val (.int kA.toInt32), .val (.int kA.toInt32), .val (.int (1 : Int32)), .val (.int v2), .val (.int kB.toInt32), .val (.int kC.toInt32), .val (.int v3), .val (.int kC.toInt32), .val (.int v2), .val (.int kB.toInt32), .unset] [(.ref b219)]))
      refine Go.callV C X244 (W := 0) (argsL := []) (rest := []) (a := b219) (BB243).1 (wd 34 rfl) (wd 35 rfl) (wd 37 rfl) (wd 36 rfl) (wd 2 rfl) (wd 38 rfl) (by decide) rfl (con_take l Z a0 hw n0 h243 X244.size b219 a1_220 a2_220 a3_220 (bN6 4 kA kB kC) (bO4 4 kA kB kC) [v1, v2, v3] ((3 : Nat).toInt32) ((kB : Nat).toInt32) kB DD220 rfl lO4 (by rw [fb6]; decide) fv6 rfl (by rw [fb6]; omega) BB243) (by decide) (by decide) rfl (lenOf pd_6 rfl) (Nat.le_of_ble_eq_true rfl) rfl at_230 (by decide) (by decide) (fun T245 h245 v245 X245 hQ245 => ?_)
      obtain ⟨rfl, BA245⟩ := hQ245
      rw [tkV_end fb6 fk3]
      have BB245 : BQ Z h245 b219 a1_220 a2_220 a3_220 (tkN (bN6 4 kA kB kC) (bO4 4 kA kB kC) kB) (bO4 4 kA kB kC) [v1, v2, v3] (3 : Nat).toInt32 (4 : Nat).toInt32 := by have u := BA245; rw [fk3] at u; exact u
      show Go p e below s n0 _ _ _ (T245.setTop (mkF m 233 #[.val (.int v1), .val (.int v2), .val (.int v3), .val (.int k1), .val (.int k2), .val (.int k3), .val (.ref b219), .val (.int kA.toInt32), .val (.int kB.toInt32), .val (.int v1), .val (.int kA.toInt32), .val (.int kA.toInt32), .val (.int (1 : Int32)), .val (.int v2), .val (.int kB.toInt32), .val (.int kC.toInt32), .val (.int v3), .val (.int kC.toInt32), .val (.int v2), .val (.int kB.toInt32), .unset] [(.int (-1 : Int32))]))
      refine Go.st (fun _ => XS.istore X245.here C.hx rfl (hb C.hby at_233) rfl (l' := #[.val (.int v1), .val (.int v2), .val (.int v3), .val (.int k1), .val (.int k2), .val (.int k3), .val (.ref b219), .val (.int kA.toInt32), .val (.int kB.toInt32), .val (.int v1), .val (.int kA.toInt32), .val (.int kA.toInt32), .val (.int (1 : Int32)), .val (.int v2), .val (.int kB.toInt32), .val (.int kC.toInt32), .val (.int v3), .val (.int kC.toInt32), .val (.int v2), .val (.int kB.toInt32), .val (.int (-1 : Int32))]) rfl) ?_
      show Go p e below s n0 _ _ _ (T245.setTop (mkF m 235 #[.val (.int v1), .val (.int v2), .val (.int v3), .val (.int k1), .val (.int k2), .val (.int k3), .val (.ref b219), .val (.int kA.toInt32), .val (.int kB.toInt32), .val (.int v1), .val (.int kA.toInt32), .val (.int kA.toInt32), .val (.int (1 : Int32)), .val (.int v2), .val (.int kB.toInt32), .val (.int kC.toInt32), .val (.int v3), .val (.int kC.toInt32), .val (.int v2), .val (.int kB.toInt32), .val (.int (-1 : Int32))] []))
      refine Go.st (fun _ => XS.iload X245.here C.hx rfl (hb C.hby at_235) rfl) ?_
      show Go p e below s n0 _ _ _ (T245.setTop (mkF m 237 #[.val (.int v1), .val (.int v2), .val (.int v3), .val (.int k1), .val (.int k2), .val (.int k3), .val (.ref b219), .val (.int kA.toInt32), .val (.int kB.toInt32), .val (.int v1), .val (.int kA.toInt32), .val (.int kA.toInt32), .val (.int (1 : Int32)), .val (.int v2), .val (.int kB.toInt32), .val (.int kC.toInt32), .val (.int v3), .val (.int kC.toInt32), .val (.int v2), .val (.int kB.toInt32), .val (.int (-1 : Int32))] [(.int (1 : Int32))]))
      refine Go.if_eq C X245 (pc' := 271) at_237 (by decide) (by decide) (fun hc => absurd hc (by decide)) (fun _ => ?_)
      show Go p e below s n0 _ _ _ (T245.setTop (mkF m 240 #[.val (.int v1), .val (.int v2), .val (.int v3), .val (.int k1), .val (.int k2), .val (.int k3), .val (.ref b219), .val (.int kA.toInt32), .val (.int kB.toInt32), .val (.int v1), .val (.int kA.toInt32), .val (.int kA.toInt32), .val (.int (1 : Int32)), .val (.int v2), .val (.int kB.toInt32), .val (.int kC.toInt32), .val (.int v3), .val (.int kC.toInt32), .val (.int v2), .val (.int kB.toInt32), .val (.int (-1 : Int32))] []))
      refine Go.st (fun _ => XS.iload X245.here C.hx rfl (hb C.hby at_240) rfl) ?_
      show Go p e below s n0 _ _ _ (T245.setTop (mkF m 242 #[.val (.int v1), .val (.int v2), .val (.int v3), .val (.int k1), .val (.int k2), .val (.int k3), .val (.ref b219), .val (.int kA.toInt32), .val (.int kB.toInt32), .val (.int v1), .val (.int kA.toInt32), .val (.int kA.toInt32), .val (.int (1 : Int32)), .val (.int v2), .val (.int kB.toInt32), .val (.int kC.toInt32), .val (.int v3), .val (.int kC.toInt32), .val (.int v2), .val (.int kB.toInt32), .val (.int (-1 : Int32))] [(.int v3)]))
      refine Go.st (fun _ => XS.iload X245.here C.hx rfl (hb C.hby at_242) rfl) ?_
      show Go p e below s n0 _ _ _ (T245.setTop (mkF m 244 #[.val (.int v1), .val (.int v2), .val (.int v3), .val (.int k1), .val (.int k2), .val (.int k3), .val (.ref b219), .val (.int kA.toInt32), .val (.int kB.toInt32), .val (.int v1), .val (.int kA.toInt32), .val (.int kA.toInt32), .val (.int (1 : Int32)), .val (.int v2), .val (.int kB.toInt32), .val (.int kC.toInt32), .val (.int v3), .val (.int kC.toInt32), .val (.int v2), .val (.int kB.toInt32), .val (.int (-1 : Int32))] [(.int kC.toInt32), (.int v3)]))
      refine Go.st (fun _ => XS.iload X245.here C.hx rfl (hb C.hby at_244) rfl) ?_
      show Go p e below s n0 _ _ _ (T245.setTop (mkF m 246 #[.val (.int v1), .val (.int v2), .val (.int v3), .val (.int k1), .val (.int k2), .val (.int k3), .val (.ref b219), .val (.int kA.toInt32), .val (.int kB.toInt32), .val (.int v1), .val (.int kA.toInt32), .val (.int kA.toInt32), .val (.int (1 : Int32)), .val (.int v2), .val (.int kB.toInt32), .val (.int kC.toInt32), .val (.int v3), .val (.int kC.toInt32), .val (.int v2), .val (.int kB.toInt32), .val (.int (-1 : Int32))] [(.int v2), (.int kC.toInt32), (.int v3)]))
      refine Go.st (fun _ => XS.iload X245.here C.hx rfl (hb C.hby at_246) rfl) ?_
      show Go p e below s n0 _ _ _ (T245.setTop (mkF m 248 #[.val (.int v1), .val (.int v2), .val (.int v3), .val (.int k1), .val (.int k2), .val (.int k3), .val (.ref b219), .val (.int kA.toInt32), .val (.int kB.toInt32), .val (.int v1), .val (.int kA.toInt32), .val (.int kA.toInt32), .val (.int (1 : Int32)), .val (.int v2), .val (.int kB.toInt32), .val (.int kC.toInt32), .val (.int v3), .val (.int kC.toInt32), .val (.int v2), .val (.int kB.toInt32), .val (.int (-1 : Int32))] [(.int kB.toInt32), (.int v2), (.int kC.toInt32), (.int v3)]))
      refine Go.st (fun _ => XS.iload X245.here C.hx rfl (hb C.hby at_248) rfl) ?_
      show Go p e below s n0 _ _ _ (T245.setTop (mkF m 250 #[.val (.int v1), .val (.int v2), .val (.int v3), .val (.int k1), .val (.int k2), .val (.int k3), .val (.ref b219), .val (.int kA.toInt32), .val (.int kB.toInt32), .val (.int v1), .val (.int kA.toInt32), .val (.int kA.toInt32), .val (.int (1 : Int32)), .val (.int v2), .val (.int kB.toInt32), .val (.int kC.toInt32), .val (.int v3), .val (.int kC.toInt32), .val (.int v2), .val (.int kB.toInt32), .val (.int (-1 : Int32))] [(.int v2), (.int kB.toInt32), (.int v2), (.int kC.toInt32), (.int v3)]))
      refine Go.st (fun _ => XS.iload X245.here C.hx rfl (hb C.hby at_250) rfl) ?_
      show Go p e below s n0 _ _ _ (T245.setTop (mkF m 252 #[.val (.int v1), .val (.int v2), .val (.int v3), .val (.int k1), .val (.int k2), .val (.int k3), .val (.ref b219), .val (.int kA.toInt32), .val (.int kB.toInt32), .val (.int v1), .val (.int kA.toInt32), .val (.int kA.toInt32), .val (.int (1 : Int32)), .val (.int v2), .val (.int kB.toInt32), .val (.int kC.toInt32), .val (.int v3), .val (.int kC.toInt32), .val (.int v2), .val (.int kB.toInt32), .val (.int (-1 : Int32))] [(.int kB.toInt32), (.int v2), (.int kB.toInt32), (.int v2), (.int kC.toInt32), (.int v3)]))
      refine Go.st (fun _ => XS.iloadN X245.here C.hx rfl (hb C.hby at_252) rfl) ?_
      show Go p e below s n0 _ _ _ (T245.setTop (mkF m 253 #[.val (.int v1), .val (.int v2), .val (.int v3), .val (.int k1), .val (.int k2), .val (.int k3), .val (.ref b219), .val (.int kA.toInt32), .val (.int kB.toInt32), .val (.int v1), .val (.int kA.toInt32), .val (.int kA.toInt32), .val (.int (1 : Int32)), .val (.int v2), .val (.int kB.toInt32), .val (.int kC.toInt32), .val (.int v3), .val (.int kC.toInt32), .val (.int v2), .val (.int kB.toInt32), .val (.int (-1 : Int32))] [(.int v3), (.int kB.toInt32), (.int v2), (.int kB.toInt32), (.int v2), (.int kC.toInt32), (.int v3)]))
      refine Go.st (fun _ => XS.iload X245.here C.hx rfl (hb C.hby at_253) rfl) ?_
      show Go p e below s n0 _ _ _ (T245.setTop (mkF m 255 #[.val (.int v1), .val (.int v2), .val (.int v3), .val (.int k1), .val (.int k2), .val (.int k3), .val (.ref b219), .val (.int kA.toInt32), .val (.int kB.toInt32), .val (.int v1), .val (.int kA.toInt32), .val (.int kA.toInt32), .val (.int (1 : Int32)), .val (.int v2), .val (.int kB.toInt32), .val (.int kC.toInt32), .val (.int v3), .val (.int kC.toInt32), .val (.int v2), .val (.int kB.toInt32), .val (.int (-1 : Int32))] [(.int kC.toInt32), (.int v3), (.int kB.toInt32), (.int v2), (.int kB.toInt32), (.int v2), (.int kC.toInt32), (.int v3)]))
      refine Go.callS C X245 (W := 0) (argsL := [(.int v3), (.int kC.toInt32), (.int v2), (.int kB.toInt32), (.int v2), (.int kB.toInt32), (.int v3), (.int kC.toInt32)]) (rest := []) (wd 48 rfl) (wd 49 rfl) (wd 50 rfl) (wd 51 rfl) (by decide) (con_pair l Z a0 hw n0 h245 X245.size v3 kC.toInt32 v2 kB.toInt32 v2 kB.toInt32 v3 kC.toInt32) (by decide) (by decide) rfl (lenOf pd_9 rfl) (Nat.le_of_ble_eq_true rfl) rfl at_255 (by decide) (by decide) (fun T247 h247 v247 X247 hQ247 => ?_)
      obtain ⟨rfl, hh247⟩ := hQ247
      rw [hh247] at X247
      rw [show pairF v3 kC.toInt32 v2 kB.toInt32 v2 kB.toInt32 v3 kC.toInt32 = 1 from by exact pair_N hB4 hC4 hRC rfl]
      show Go p e below s n0 _ _ _ (T247.setTop (mkF m 258 #[.val (.int v1), .val (.int v2), .val (.int v3), .val (.int k1), .val (.int k2), .val (.int k3), .val (.ref b219), .val (.int kA.toInt32), .val (.int kB.toInt32), .val (.int v1), .val (.int kA.toInt32), .val (.int kA.toInt32), .val (.int (1 : Int32)), .val (.int v2), .val (.int kB.toInt32), .val (.int kC.toInt32), .val (.int v3), .val (.int kC.toInt32), .val (.int v2), .val (.int kB.toInt32), .val (.int (-1 : Int32))] [(.int (1 : Int32))]))
      refine Go.if_eq C X247 (pc' := 271) at_258 (by decide) (by decide) (fun hc => absurd hc (by decide)) (fun _ => ?_)
      show Go p e below s n0 _ _ _ (T247.setTop (mkF m 261 #[.val (.int v1), .val (.int v2), .val (.int v3), .val (.int k1), .val (.int k2), .val (.int k3), .val (.ref b219), .val (.int kA.toInt32), .val (.int kB.toInt32), .val (.int v1), .val (.int kA.toInt32), .val (.int kA.toInt32), .val (.int (1 : Int32)), .val (.int v2), .val (.int kB.toInt32), .val (.int kC.toInt32), .val (.int v3), .val (.int kC.toInt32), .val (.int v2), .val (.int kB.toInt32), .val (.int (-1 : Int32))] []))
      refine Go.st (fun _ => XS.iload X247.here C.hx rfl (hb C.hby at_261) rfl) ?_
      show Go p e below s n0 _ _ _ (T247.setTop (mkF m 263 #[.val (.int v1), .val (.int v2), .val (.int v3), .val (.int k1), .val (.int k2), .val (.int k3), .val (.ref b219), .val (.int kA.toInt32), .val (.int kB.toInt32), .val (.int v1), .val (.int kA.toInt32), .val (.int kA.toInt32), .val (.int (1 : Int32)), .val (.int v2), .val (.int kB.toInt32), .val (.int kC.toInt32), .val (.int v3), .val (.int kC.toInt32), .val (.int v2), .val (.int kB.toInt32), .val (.int (-1 : Int32))] [(.int (-1 : Int32))]))
      refine Go.st (fun _ => XS.iconst X247.here C.hx rfl (hb C.hby at_263)) ?_
      show Go p e below s n0 _ _ _ (T247.setTop (mkF m 264 #[.val (.int v1), .val (.int v2), .val (.int v3), .val (.int k1), .val (.int k2), .val (.int k3), .val (.ref b219), .val (.int kA.toInt32), .val (.int kB.toInt32), .val (.int v1), .val (.int kA.toInt32), .val (.int kA.toInt32), .val (.int (1 : Int32)), .val (.int v2), .val (.int kB.toInt32), .val (.int kC.toInt32), .val (.int v3), .val (.int kC.toInt32), .val (.int v2), .val (.int kB.toInt32), .val (.int (-1 : Int32))] [(.int (-1 : Int32)), (.int (-1 : Int32))]))
      refine Go.icmp_ne C X247 (pc' := 271) at_264 (by decide) (by decide) (fun hc => absurd hc (by decide)) (fun _ => ?_)
      show Go p e below s n0 _ _ _ (T247.setTop (mkF m 267 #[.val (.int v1), .val (.int v2), .val (.int v3), .val (.int k1), .val (.int k2), .val (.int k3), .val (.ref b219), .val (.int kA.toInt32), .val (.int kB.toInt32), .val (.int v1), .val (.int kA.toInt32), .val (.int kA.toInt32), .val (.int (1 : Int32)), .val (.int v2), .val (.int kB.toInt32), .val (.int kC.toInt32), .val (.int v3), .val (.int kC.toInt32), .val (.int v2), .val (.int kB.toInt32), .val (.int (-1 : Int32))] []))
      refine Go.st (fun _ => XS.iconst X247.here C.hx rfl (hb C.hby at_267)) ?_
      show Go p e below s n0 _ _ _ (T247.setTop (mkF m 268 #[.val (.int v1), .val (.int v2), .val (.int v3), .val (.int k1), .val (.int k2), .val (.int k3), .val (.ref b219), .val (.int kA.toInt32), .val (.int kB.toInt32), .val (.int v1), .val (.int kA.toInt32), .val (.int kA.toInt32), .val (.int (1 : Int32)), .val (.int v2), .val (.int kB.toInt32), .val (.int kC.toInt32), .val (.int v3), .val (.int kC.toInt32), .val (.int v2), .val (.int kB.toInt32), .val (.int (-1 : Int32))] [(.int (1 : Int32))]))
      refine Go.st (fun _ => XS.goto X247.here C.hx rfl (pc0 := 268) (pc' := 272) rfl (hb C.hby at_268) (by decide) (by decide)) ?_
      show Go p e below s n0 _ _ _ (T247.setTop (mkF m 272 #[.val (.int v1), .val (.int v2), .val (.int v3), .val (.int k1), .val (.int k2), .val (.int k3), .val (.ref b219), .val (.int kA.toInt32), .val (.int kB.toInt32), .val (.int v1), .val (.int kA.toInt32), .val (.int kA.toInt32), .val (.int (1 : Int32)), .val (.int v2), .val (.int kB.toInt32), .val (.int kC.toInt32), .val (.int v3), .val (.int kC.toInt32), .val (.int v2), .val (.int kB.toInt32), .val (.int (-1 : Int32))] [(.int (1 : Int32))]))
      exact Go.retZ C X247 (by decide) at_272 rfl (by decide) (by decide)
  · rw [if_neg hAB] at fk0 fe0
    rw [if_neg hAB] at fe0
    unfold bK0 at fk0
    have hABz : ¬ kA.toInt32 < kB.toInt32 := by rw [ltI hA4 hB4]; exact hAB
    show Go p e below s n0 _ _ _ (T222.setTop (mkF m 38 #[.val (.int v1), .val (.int v2), .val (.int v3), .val (.int k1), .val (.int k2), .val (.int k3), .val (.ref b219), .val (.int kA.toInt32), .val (.int kB.toInt32), .unset, .unset, .unset, .unset, .unset, .unset, .unset, .unset, .unset, .unset, .unset, .unset] []))
    refine Go.st (fun _ => XS.aload X222.here C.hx rfl (hb C.hby at_38) rfl rfl) ?_
    show Go p e below s n0 _ _ _ (T222.setTop (mkF m 40 #[.val (.int v1), .val (.int v2), .val (.int v3), .val (.int k1), .val (.int k2), .val (.int k3), .val (.ref b219), .val (.int kA.toInt32), .val (.int kB.toInt32), .unset, .unset, .unset, .unset, .unset, .unset, .unset, .unset, .unset, .unset, .unset, .unset] [(.ref b219)]))
    refine Go.callV C X222 (W := 0) (argsL := []) (rest := []) (a := b219) (BB222).1 (wd 34 rfl) (wd 35 rfl) (wd 37 rfl) (wd 36 rfl) (wd 2 rfl) (wd 38 rfl) (by decide) rfl (con_take l Z a0 hw n0 h222 X222.size b219 a1_220 a2_220 a3_220 (bN2 4 kA kB) (bO2 4 kA kB) [v1, v2, 0] ((2 : Nat).toInt32) ((0 : Nat).toInt32) 0 DD220 rfl lO2 (by rw [fa2]; decide) fv2 rfl (Nat.zero_le _) BB222) (by decide) (by decide) rfl (lenOf pd_6 rfl) (Nat.le_of_ble_eq_true rfl) rfl at_40 (by decide) (by decide) (fun T250 h250 v250 X250 hQ250 => ?_)
    obtain ⟨rfl, BA250⟩ := hQ250
    rw [tkV_hit (e := 1) fa2 fk0 (by omega) fe0]
    have BB250 : BQ Z h250 b219 a1_220 a2_220 a3_220 (bN3 4 kA kB) (bO2 4 kA kB) [v1, v2, 0] (2 : Nat).toInt32 (kB : Nat).toInt32 := by have u := BA250; rw [fk0] at u; exact u
    show Go p e below s n0 _ _ _ (T250.setTop (mkF m 43 #[.val (.int v1), .val (.int v2), .val (.int v3), .val (.int k1), .val (.int k2), .val (.int k3), .val (.ref b219), .val (.int kA.toInt32), .val (.int kB.toInt32), .unset, .unset, .unset, .unset, .unset, .unset, .unset, .unset, .unset, .unset, .unset, .unset] [(.int v2)]))
    refine Go.st (fun _ => XS.istore X250.here C.hx rfl (hb C.hby at_43) rfl (l' := #[.val (.int v1), .val (.int v2), .val (.int v3), .val (.int k1), .val (.int k2), .val (.int k3), .val (.ref b219), .val (.int kA.toInt32), .val (.int kB.toInt32), .val (.int v2), .unset, .unset, .unset, .unset, .unset, .unset, .unset, .unset, .unset, .unset, .unset]) rfl) ?_
    show Go p e below s n0 _ _ _ (T250.setTop (mkF m 45 #[.val (.int v1), .val (.int v2), .val (.int v3), .val (.int k1), .val (.int k2), .val (.int k3), .val (.ref b219), .val (.int kA.toInt32), .val (.int kB.toInt32), .val (.int v2), .unset, .unset, .unset, .unset, .unset, .unset, .unset, .unset, .unset, .unset, .unset] []))
    refine Go.st (fun _ => XS.aload X250.here C.hx rfl (hb C.hby at_45) rfl rfl) ?_
    show Go p e below s n0 _ _ _ (T250.setTop (mkF m 47 #[.val (.int v1), .val (.int v2), .val (.int v3), .val (.int k1), .val (.int k2), .val (.int k3), .val (.ref b219), .val (.int kA.toInt32), .val (.int kB.toInt32), .val (.int v2), .unset, .unset, .unset, .unset, .unset, .unset, .unset, .unset, .unset, .unset, .unset] [(.ref b219)]))
    refine Go.callV C X250 (W := 0) (argsL := []) (rest := []) (a := b219) (BB250).1 (wd 39 rfl) (wd 40 rfl) (wd 42 rfl) (wd 41 rfl) (wd 2 rfl) (wd 43 rfl) (by decide) rfl (con_key l Z a0 hw n0 h250 X250.size b219 a1_220 a2_220 a3_220 (bN3 4 kA kB) (bO2 4 kA kB) [v1, v2, 0] _ _ BB250) (by decide) (by decide) rfl (lenOf pd_7 rfl) (Nat.le_of_ble_eq_true rfl) rfl at_47 (by decide) (by decide) (fun T251 h251 v251 X251 hQ251 => ?_)
    obtain ⟨rfl, hh251⟩ := hQ251
    rw [hh251] at X251
    show Go p e below s n0 _ _ _ (T251.setTop (mkF m 50 #[.val (.int v1), .val (.int v2), .val (.int v3), .val (.int k1), .val (.int k2), .val (.int k3), .val (.ref b219), .val (.int kA.toInt32), .val (.int kB.toInt32), .val (.int v2), .unset, .unset, .unset, .unset, .unset, .unset, .unset, .unset, .unset, .unset, .unset] [(.int kB.toInt32)]))
    refine Go.st (fun _ => XS.istore X251.here C.hx rfl (hb C.hby at_50) rfl (l' := #[.val (.int v1), .val (.int v2), .val (.int v3), .val (.int k1), .val (.int k2), .val (.int k3), .val (.ref b219), .val (.int kA.toInt32), .val (.int kB.toInt32), .val (.int v2), .val (.int kB.toInt32), .unset, .unset, .unset, .unset, .unset, .unset, .unset, .unset, .unset, .unset]) rfl) ?_
    show Go p e below s n0 _ _ _ (T251.setTop (mkF m 52 #[.val (.int v1), .val (.int v2), .val (.int v3), .val (.int k1), .val (.int k2), .val (.int k3), .val (.ref b219), .val (.int kA.toInt32), .val (.int kB.toInt32), .val (.int v2), .val (.int kB.toInt32), .unset, .unset, .unset, .unset, .unset, .unset, .unset, .unset, .unset, .unset] []))
    refine Go.st (fun _ => XS.iload X251.here C.hx rfl (hb C.hby at_52) rfl) ?_
    show Go p e below s n0 _ _ _ (T251.setTop (mkF m 54 #[.val (.int v1), .val (.int v2), .val (.int v3), .val (.int k1), .val (.int k2), .val (.int k3), .val (.ref b219), .val (.int kA.toInt32), .val (.int kB.toInt32), .val (.int v2), .val (.int kB.toInt32), .unset, .unset, .unset, .unset, .unset, .unset, .unset, .unset, .unset, .unset] [(.int kA.toInt32)]))
    refine Go.st (fun _ => XS.iload X251.here C.hx rfl (hb C.hby at_54) rfl) ?_
    show Go p e below s n0 _ _ _ (T251.setTop (mkF m 56 #[.val (.int v1), .val (.int v2), .val (.int v3), .val (.int k1), .val (.int k2), .val (.int k3), .val (.ref b219), .val (.int kA.toInt32), .val (.int kB.toInt32), .val (.int v2), .val (.int kB.toInt32), .unset, .unset, .unset, .unset, .unset, .unset, .unset, .unset, .unset, .unset] [(.int kB.toInt32), (.int kA.toInt32)]))
    refine Go.callS C X251 (W := 0) (argsL := [(.int kA.toInt32), (.int kB.toInt32)]) (rest := []) (wd 44 rfl) (wd 45 rfl) (wd 46 rfl) (wd 47 rfl) (by decide) (con_min l Z a0 hw n0 h250 X251.size kA.toInt32 kB.toInt32) (by decide) (by decide) rfl (lenOf pd_8 rfl) (Nat.le_of_ble_eq_true rfl) rfl at_56 (by decide) (by decide) (fun T252 h252 v252 X252 hQ252 => ?_)
    obtain ⟨rfl, hh252⟩ := hQ252
    rw [hh252] at X252
    rw [(show mnF kA.toInt32 kB.toInt32 = kB.toInt32 from mn_B hA4 hB4 hAB)]
    show Go p e below s n0 _ _ _ (T252.setTop (mkF m 59 #[.val (.int v1), .val (.int v2), .val (.int v3), .val (.int k1), .val (.int k2), .val (.int k3), .val (.ref b219), .val (.int kA.toInt32), .val (.int kB.toInt32), .val (.int v2), .val (.int kB.toInt32), .unset, .unset, .unset, .unset, .unset, .unset, .unset, .unset, .unset, .unset] [(.int kB.toInt32)]))
    refine Go.st (fun _ => XS.istore X252.here C.hx rfl (hb C.hby at_59) rfl (l' := #[.val (.int v1), .val (.int v2), .val (.int v3), .val (.int k1), .val (.int k2), .val (.int k3), .val (.ref b219), .val (.int kA.toInt32), .val (.int kB.toInt32), .val (.int v2), .val (.int kB.toInt32), .val (.int kB.toInt32), .unset, .unset, .unset, .unset, .unset, .unset, .unset, .unset, .unset]) rfl) ?_
    show Go p e below s n0 _ _ _ (T252.setTop (mkF m 61 #[.val (.int v1), .val (.int v2), .val (.int v3), .val (.int k1), .val (.int k2), .val (.int k3), .val (.ref b219), .val (.int kA.toInt32), .val (.int kB.toInt32), .val (.int v2), .val (.int kB.toInt32), .val (.int kB.toInt32), .unset, .unset, .unset, .unset, .unset, .unset, .unset, .unset, .unset] []))
    refine Go.st (fun _ => XS.iload X252.here C.hx rfl (hb C.hby at_61) rfl) ?_
    show Go p e below s n0 _ _ _ (T252.setTop (mkF m 63 #[.val (.int v1), .val (.int v2), .val (.int v3), .val (.int k1), .val (.int k2), .val (.int k3), .val (.ref b219), .val (.int kA.toInt32), .val (.int kB.toInt32), .val (.int v2), .val (.int kB.toInt32), .val (.int kB.toInt32), .unset, .unset, .unset, .unset, .unset, .unset, .unset, .unset, .unset] [(.int kA.toInt32)]))
    refine Go.st (fun _ => XS.iload X252.here C.hx rfl (hb C.hby at_63) rfl) ?_
    show Go p e below s n0 _ _ _ (T252.setTop (mkF m 65 #[.val (.int v1), .val (.int v2), .val (.int v3), .val (.int k1), .val (.int k2), .val (.int k3), .val (.ref b219), .val (.int kA.toInt32), .val (.int kB.toInt32), .val (.int v2), .val (.int kB.toInt32), .val (.int kB.toInt32), .unset, .unset, .unset, .unset, .unset, .unset, .unset, .unset, .unset] [(.int kB.toInt32), (.int kA.toInt32)]))
    refine Go.icmp_ge C X252 (pc' := 91) at_65 (by decide) (by decide) (fun _ => ?_) (fun hc => by first | exact absurd hc hABz | exact absurd hABz hc)
    show Go p e below s n0 _ _ _ (T252.setTop (mkF m 91 #[.val (.int v1), .val (.int v2), .val (.int v3), .val (.int k1), .val (.int k2), .val (.int k3), .val (.ref b219), .val (.int kA.toInt32), .val (.int kB.toInt32), .val (.int v2), .val (.int kB.toInt32), .val (.int kB.toInt32), .unset, .unset, .unset, .unset, .unset, .unset, .unset, .unset, .unset] []))
    refine Go.st (fun _ => XS.iload X252.here C.hx rfl (hb C.hby at_91) rfl) ?_
    show Go p e below s n0 _ _ _ (T252.setTop (mkF m 93 #[.val (.int v1), .val (.int v2), .val (.int v3), .val (.int k1), .val (.int k2), .val (.int k3), .val (.ref b219), .val (.int kA.toInt32), .val (.int kB.toInt32), .val (.int v2), .val (.int kB.toInt32), .val (.int kB.toInt32), .unset, .unset, .unset, .unset, .unset, .unset, .unset, .unset, .unset] [(.int kB.toInt32)]))
    refine Go.st (fun _ => XS.iload X252.here C.hx rfl (hb C.hby at_93) rfl) ?_
    show Go p e below s n0 _ _ _ (T252.setTop (mkF m 95 #[.val (.int v1), .val (.int v2), .val (.int v3), .val (.int k1), .val (.int k2), .val (.int k3), .val (.ref b219), .val (.int kA.toInt32), .val (.int kB.toInt32), .val (.int v2), .val (.int kB.toInt32), .val (.int kB.toInt32), .unset, .unset, .unset, .unset, .unset, .unset, .unset, .unset, .unset] [(.int kA.toInt32), (.int kB.toInt32)]))
    refine Go.icmp_ge C X252 (pc' := 121) at_95 (by decide) (by decide) (fun hc95_254 => ?_) (fun hc95_254 => ?_)
    · show Go p e below s n0 _ _ _ (T252.setTop (mkF m 121 #[.val (.int v1), .val (.int v2), .val (.int v3), .val (.int k1), .val (.int k2), .val (.int k3), .val (.ref b219), .val (.int kA.toInt32), .val (.int kB.toInt32), .val (.int v2), .val (.int kB.toInt32), .val (.int kB.toInt32), .unset, .unset, .unset, .unset, .unset, .unset, .unset, .unset, .unset] []))
      refine Go.st (fun _ => XS.iload X252.here C.hx rfl (hb C.hby at_121) rfl) ?_
      show Go p e below s n0 _ _ _ (T252.setTop (mkF m 123 #[.val (.int v1), .val (.int v2), .val (.int v3), .val (.int k1), .val (.int k2), .val (.int k3), .val (.ref b219), .val (.int kA.toInt32), .val (.int kB.toInt32), .val (.int v2), .val (.int kB.toInt32), .val (.int kB.toInt32), .unset, .unset, .unset, .unset, .unset, .unset, .unset, .unset, .unset] [(.int v2)]))
      refine Go.st (fun _ => XS.iloadN X252.here C.hx rfl (hb C.hby at_123) rfl) ?_
      show Go p e below s n0 _ _ _ (T252.setTop (mkF m 124 #[.val (.int v1), .val (.int v2), .val (.int v3), .val (.int k1), .val (.int k2), .val (.int k3), .val (.ref b219), .val (.int kA.toInt32), .val (.int kB.toInt32), .val (.int v2), .val (.int kB.toInt32), .val (.int kB.toInt32), .unset, .unset, .unset, .unset, .unset, .unset, .unset, .unset, .unset] [(.int v1), (.int v2)]))
      refine Go.icmp_eq C X252 (pc' := 133) at_124 (by decide) (by decide) (fun hc124_255 => ?_) (fun hc124_255 => ?_)
      · show Go p e below s n0 _ _ _ (T252.setTop (mkF m 133 #[.val (.int v1), .val (.int v2), .val (.int v3), .val (.int k1), .val (.int k2), .val (.int k3), .val (.ref b219), .val (.int kA.toInt32), .val (.int kB.toInt32), .val (.int v2), .val (.int kB.toInt32), .val (.int kB.toInt32), .unset, .unset, .unset, .unset, .unset, .unset, .unset, .unset, .unset] []))
        refine Go.st (fun _ => XS.iconst X252.here C.hx rfl (hb C.hby at_133)) ?_
        show Go p e below s n0 _ _ _ (T252.setTop (mkF m 134 #[.val (.int v1), .val (.int v2), .val (.int v3), .val (.int k1), .val (.int k2), .val (.int k3), .val (.ref b219), .val (.int kA.toInt32), .val (.int kB.toInt32), .val (.int v2), .val (.int kB.toInt32), .val (.int kB.toInt32), .unset, .unset, .unset, .unset, .unset, .unset, .unset, .unset, .unset] [(.int (1 : Int32))]))
        refine Go.st (fun _ => XS.goto X252.here C.hx rfl (pc0 := 134) (pc' := 138) rfl (hb C.hby at_134) (by decide) (by decide)) ?_
        show Go p e below s n0 _ _ _ (T252.setTop (mkF m 138 #[.val (.int v1), .val (.int v2), .val (.int v3), .val (.int k1), .val (.int k2), .val (.int k3), .val (.ref b219), .val (.int kA.toInt32), .val (.int kB.toInt32), .val (.int v2), .val (.int kB.toInt32), .val (.int kB.toInt32), .unset, .unset, .unset, .unset, .unset, .unset, .unset, .unset, .unset] [(.int (1 : Int32))]))
        refine Go.st (fun _ => XS.istore X252.here C.hx rfl (hb C.hby at_138) rfl (l' := #[.val (.int v1), .val (.int v2), .val (.int v3), .val (.int k1), .val (.int k2), .val (.int k3), .val (.ref b219), .val (.int kA.toInt32), .val (.int kB.toInt32), .val (.int v2), .val (.int kB.toInt32), .val (.int kB.toInt32), .val (.int (1 : Int32)), .unset, .unset, .unset, .unset, .unset, .unset, .unset, .unset]) rfl) ?_
        show Go p e below s n0 _ _ _ (T252.setTop (mkF m 140 #[.val (.int v1), .val (.int v2), .val (.int v3), .val (.int k1), .val (.int k2), .val (.int k3), .val (.ref b219), .val (.int kA.toInt32), .val (.int kB.toInt32), .val (.int v2), .val (.int kB.toInt32), .val (.int kB.toInt32), .val (.int (1 : Int32)), .unset, .unset, .unset, .unset, .unset, .unset, .unset, .unset] []))
        refine Go.st (fun _ => XS.iload X252.here C.hx rfl (hb C.hby at_140) rfl) ?_
        show Go p e below s n0 _ _ _ (T252.setTop (mkF m 142 #[.val (.int v1), .val (.int v2), .val (.int v3), .val (.int k1), .val (.int k2), .val (.int k3), .val (.ref b219), .val (.int kA.toInt32), .val (.int kB.toInt32), .val (.int v2), .val (.int kB.toInt32), .val (.int kB.toInt32), .val (.int (1 : Int32)), .unset, .unset, .unset, .unset, .unset, .unset, .unset, .unset] [(.int v2)]))
        refine Go.st (fun _ => XS.iloadN X252.here C.hx rfl (hb C.hby at_142) rfl) ?_
        show Go p e below s n0 _ _ _ (T252.setTop (mkF m 143 #[.val (.int v1), .val (.int v2), .val (.int v3), .val (.int k1), .val (.int k2), .val (.int k3), .val (.ref b219), .val (.int kA.toInt32), .val (.int kB.toInt32), .val (.int v2), .val (.int kB.toInt32), .val (.int kB.toInt32), .val (.int (1 : Int32)), .unset, .unset, .unset, .unset, .unset, .unset, .unset, .unset] [(.int v1), (.int v2)]))
        refine Go.icmp_ne C X252 (pc' := 152) at_143 (by decide) (by decide) (fun hc => by first | exact absurd hc hc124_255 | exact absurd hc124_255 hc) (fun _ => ?_)
        show Go p e below s n0 _ _ _ (T252.setTop (mkF m 146 #[.val (.int v1), .val (.int v2), .val (.int v3), .val (.int k1), .val (.int k2), .val (.int k3), .val (.ref b219), .val (.int kA.toInt32), .val (.int kB.toInt32), .val (.int v2), .val (.int kB.toInt32), .val (.int kB.toInt32), .val (.int (1 : Int32)), .unset, .unset, .unset, .unset, .unset, .unset, .unset, .unset] []))
        refine Go.st (fun _ => XS.iloadN X252.here C.hx rfl (hb C.hby at_146) rfl) ?_
        show Go p e below s n0 _ _ _ (T252.setTop (mkF m 147 #[.val (.int v1), .val (.int v2), .val (.int v3), .val (.int k1), .val (.int k2), .val (.int k3), .val (.ref b219), .val (.int kA.toInt32), .val (.int kB.toInt32), .val (.int v2), .val (.int kB.toInt32), .val (.int kB.toInt32), .val (.int (1 : Int32)), .unset, .unset, .unset, .unset, .unset, .unset, .unset, .unset] [(.int v2)]))
        refine Go.st (fun _ => XS.istore X252.here C.hx rfl (hb C.hby at_147) rfl (l' := #[.val (.int v1), .val (.int v2), .val (.int v3), .val (.int k1), .val (.int k2), .val (.int k3), .val (.ref b219), .val (.int kA.toInt32), .val (.int kB.toInt32), .val (.int v2), .val (.int kB.toInt32), .val (.int kB.toInt32), .val (.int (1 : Int32)), .val (.int v2), .unset, .unset, .unset, .unset, .unset, .unset, .unset]) rfl) ?_
        show Go p e below s n0 _ _ _ (T252.setTop (mkF m 149 #[.val (.int v1), .val (.int v2), .val (.int v3), .val (.int k1), .val (.int k2), .val (.int k3), .val (.ref b219), .val (.int kA.toInt32), .val (.int kB.toInt32), .val (.int v2), .val (.int kB.toInt32), .val (.int kB.toInt32), .val (.int (1 : Int32)), .val (.int v2), .unset, .unset, .unset, .unset, .unset, .unset, .unset] []))
        refine Go.st (fun _ => XS.goto X252.here C.hx rfl (pc0 := 149) (pc' := 155) rfl (hb C.hby at_149) (by decide) (by decide)) ?_
        show Go p e below s n0 _ _ _ (T252.setTop (mkF m 155 #[.val (.int v1), .val (.int v2), .val (.int v3), .val (.int k1), .val (.int k2), .val (.int k3), .val (.ref b219), .val (.int kA.toInt32), .val (.int kB.toInt32), .val (.int v2), .val (.int kB.toInt32), .val (.int kB.toInt32), .val (.int (1 : Int32)), .val (.int v2), .unset, .unset, .unset, .unset, .unset, .unset, .unset] []))
        refine Go.st (fun _ => XS.iload X252.here C.hx rfl (hb C.hby at_155) rfl) ?_
        show Go p e below s n0 _ _ _ (T252.setTop (mkF m 157 #[.val (.int v1), .val (.int v2), .val (.int v3), .val (.int k1), .val (.int k2), .val (.int k3), .val (.ref b219), .val (.int kA.toInt32), .val (.int kB.toInt32), .val (.int v2), .val (.int kB.toInt32), .val (.int kB.toInt32), .val (.int (1 : Int32)), .val (.int v2), .unset, .unset, .unset, .unset, .unset, .unset, .unset] [(.int kA.toInt32)]))
        refine Go.st (fun _ => XS.istore X252.here C.hx rfl (hb C.hby at_157) rfl (l' := #[.val (.int v1), .val (.int v2), .val (.int v3), .val (.int k1), .val (.int k2), .val (.int k3), .val (.ref b219), .val (.int kA.toInt32), .val (.int kB.toInt32), .val (.int v2), .val (.int kB.toInt32), .val (.int kB.toInt32), .val (.int (1 : Int32)), .val (.int v2), .val (.int kA.toInt32), .unset, .unset, .unset, .unset, .unset, .unset]) rfl) ?_
        show Go p e below s n0 _ _ _ (T252.setTop (mkF m 159 #[.val (.int v1), .val (.int v2), .val (.int v3), .val (.int k1), .val (.int k2), .val (.int k3), .val (.ref b219), .val (.int kA.toInt32), .val (.int kB.toInt32), .val (.int v2), .val (.int kB.toInt32), .val (.int kB.toInt32), .val (.int (1 : Int32)), .val (.int v2), .val (.int kA.toInt32), .unset, .unset, .unset, .unset, .unset, .unset] []))
        refine Go.st (fun _ => XS.iload X252.here C.hx rfl (hb C.hby at_159) rfl) ?_
        show Go p e below s n0 _ _ _ (T252.setTop (mkF m 161 #[.val (.int v1), .val (.int v2), .val (.int v3), .val (.int k1), .val (.int k2), .val (.int k3), .val (.ref b219), .val (.int kA.toInt32), .val (.int kB.toInt32), .val (.int v2), .val (.int kB.toInt32), .val (.int kB.toInt32), .val (.int (1 : Int32)), .val (.int v2), .val (.int kA.toInt32), .unset, .unset, .unset, .unset, .unset, .unset] [(.int (1 : Int32))]))
        refine Go.if_eq C X252 (pc' := 175) at_161 (by decide) (by decide) (fun hc => absurd hc (by decide)) (fun _ => ?_)
        show Go p e below s n0 _ _ _ (T252.setTop (mkF m 164 #[.val (.int v1), .val (.int v2), .val (.int v3), .val (.int k1), .val (.int k2), .val (.int k3), .val (.ref b219), .val (.int kA.toInt32), .val (.int kB.toInt32), .val (.int v2), .val (.int kB.toInt32), .val (.int kB.toInt32), .val (.int (1 : Int32)), .val (.int v2), .val (.int kA.toInt32), .unset, .unset, .unset, .unset, .unset, .unset] []))
        refine Go.st (fun _ => XS.iload X252.here C.hx rfl (hb C.hby at_164) rfl) ?_
        show Go p e below s n0 _ _ _ (T252.setTop (mkF m 166 #[.val (.int v1), .val (.int v2), .val (.int v3), .val (.int k1), .val (.int k2), .val (.int k3), .val (.ref b219), .val (.int kA.toInt32), .val (.int kB.toInt32), .val (.int v2), .val (.int kB.toInt32), .val (.int kB.toInt32), .val (.int (1 : Int32)), .val (.int v2), .val (.int kA.toInt32), .unset, .unset, .unset, .unset, .unset, .unset] [(.int kB.toInt32)]))
        refine Go.st (fun _ => XS.iload X252.here C.hx rfl (hb C.hby at_166) rfl) ?_
        show Go p e below s n0 _ _ _ (T252.setTop (mkF m 168 #[.val (.int v1), .val (.int v2), .val (.int v3), .val (.int k1), .val (.int k2), .val (.int k3), .val (.ref b219), .val (.int kA.toInt32), .val (.int kB.toInt32), .val (.int v2), .val (.int kB.toInt32), .val (.int kB.toInt32), .val (.int (1 : Int32)), .val (.int v2), .val (.int kA.toInt32), .unset, .unset, .unset, .unset, .unset, .unset] [(.int kB.toInt32), (.int kB.toInt32)]))
        refine Go.icmp_ne C X252 (pc' := 175) at_168 (by decide) (by decide) (fun hc => by first | exact absurd hc rfl | exact absurd rfl hc) (fun _ => ?_)
        show Go p e below s n0 _ _ _ (T252.setTop (mkF m 171 #[.val (.int v1), .val (.int v2), .val (.int v3), .val (.int k1), .val (.int k2), .val (.int k3), .val (.ref b219), .val (.int kA.toInt32), .val (.int kB.toInt32), .val (.int v2), .val (.int kB.toInt32), .val (.int kB.toInt32), .val (.int (1 : Int32)), .val (.int v2), .val (.int kA.toInt32), .unset, .unset, .unset, .unset, .unset, .unset] []))
        refine Go.st (fun _ => XS.iconst X252.here C.hx rfl (hb C.hby at_171)) ?_
        show Go p e below s n0 _ _ _ (T252.setTop (mkF m 172 #[.val (.int v1), .val (.int v2), .val (.int v3), .val (.int k1), .val (.int k2), .val (.int k3), .val (.ref b219), .val (.int kA.toInt32), .val (.int kB.toInt32), .val (.int v2), .val (.int kB.toInt32), .val (.int kB.toInt32), .val (.int (1 : Int32)), .val (.int v2), .val (.int kA.toInt32), .unset, .unset, .unset, .unset, .unset, .unset] [(.int (1 : Int32))]))
        refine Go.st (fun _ => XS.goto X252.here C.hx rfl (pc0 := 172) (pc' := 176) rfl (hb C.hby at_172) (by decide) (by decide)) ?_
        show Go p e below s n0 _ _ _ (T252.setTop (mkF m 176 #[.val (.int v1), .val (.int v2), .val (.int v3), .val (.int k1), .val (.int k2), .val (.int k3), .val (.ref b219), .val (.int kA.toInt32), .val (.int kB.toInt32), .val (.int v2), .val (.int kB.toInt32), .val (.int kB.toInt32), .val (.int (1 : Int32)), .val (.int v2), .val (.int kA.toInt32), .unset, .unset, .unset, .unset, .unset, .unset] [(.int (1 : Int32))]))
        refine Go.st (fun _ => XS.istore X252.here C.hx rfl (hb C.hby at_176) rfl (l' := #[.val (.int v1), .val (.int v2), .val (.int v3), .val (.int k1), .val (.int k2), .val (.int k3), .val (.ref b219), .val (.int kA.toInt32), .val (.int kB.toInt32), .val (.int v2), .val (.int kB.toInt32), .val (.int kB.toInt32), .val (.int (1 : Int32)), .val (.int v2), .val (.int kA.toInt32), .unset, .unset, .unset, .unset, .unset, .unset]) rfl) ?_
        show Go p e below s n0 _ _ _ (T252.setTop (mkF m 178 #[.val (.int v1), .val (.int v2), .val (.int v3), .val (.int k1), .val (.int k2), .val (.int k3), .val (.ref b219), .val (.int kA.toInt32), .val (.int kB.toInt32), .val (.int v2), .val (.int kB.toInt32), .val (.int kB.toInt32), .val (.int (1 : Int32)), .val (.int v2), .val (.int kA.toInt32), .unset, .unset, .unset, .unset, .unset, .unset] []))
        refine Go.st (fun _ => XS.iload X252.here C.hx rfl (hb C.hby at_178) rfl) ?_
        show Go p e below s n0 _ _ _ (T252.setTop (mkF m 180 #[.val (.int v1), .val (.int v2), .val (.int v3), .val (.int k1), .val (.int k2), .val (.int k3), .val (.ref b219), .val (.int kA.toInt32), .val (.int kB.toInt32), .val (.int v2), .val (.int kB.toInt32), .val (.int kB.toInt32), .val (.int (1 : Int32)), .val (.int v2), .val (.int kA.toInt32), .unset, .unset, .unset, .unset, .unset, .unset] [(.int kB.toInt32)]))
        refine Go.st (fun _ => XS.iload X252.here C.hx rfl (hb C.hby at_180) rfl) ?_
        show Go p e below s n0 _ _ _ (T252.setTop (mkF m 182 #[.val (.int v1), .val (.int v2), .val (.int v3), .val (.int k1), .val (.int k2), .val (.int k3), .val (.ref b219), .val (.int kA.toInt32), .val (.int kB.toInt32), .val (.int v2), .val (.int kB.toInt32), .val (.int kB.toInt32), .val (.int (1 : Int32)), .val (.int v2), .val (.int kA.toInt32), .unset, .unset, .unset, .unset, .unset, .unset] [(.int k3), (.int kB.toInt32)]))
        refine Go.st (fun _ => XS.iconst X252.here C.hx rfl (hb C.hby at_182)) ?_
        show Go p e below s n0 _ _ _ (T252.setTop (mkF m 183 #[.val (.int v1), .val (.int v2), .val (.int v3), .val (.int k1), .val (.int k2), .val (.int k3), .val (.ref b219), .val (.int kA.toInt32), .val (.int kB.toInt32), .val (.int v2), .val (.int kB.toInt32), .val (.int kB.toInt32), .val (.int (1 : Int32)), .val (.int v2), .val (.int kA.toInt32), .unset, .unset, .unset, .unset, .unset, .unset] [(.int (3 : Int32)), (.int k3), (.int kB.toInt32)]))
        refine Go.st (fun _ => XS.iand X252.here C.hx rfl (hb C.hby at_183) rfl) ?_
        show Go p e below s n0 _ _ _ (T252.setTop (mkF m 184 #[.val (.int v1), .val (.int v2), .val (.int v3), .val (.int k1), .val (.int k2), .val (.int k3), .val (.ref b219), .val (.int kA.toInt32), .val (.int kB.toInt32), .val (.int v2), .val (.int kB.toInt32), .val (.int kB.toInt32), .val (.int (1 : Int32)), .val (.int v2), .val (.int kA.toInt32), .unset, .unset, .unset, .unset, .unset, .unset] [(.int (k3 &&& (3 : Int32))), (.int kB.toInt32)]))
        refine Go.st (fun _ => XS.iconst X252.here C.hx rfl (hb C.hby at_184)) ?_
        show Go p e below s n0 _ _ _ (T252.setTop (mkF m 185 #[.val (.int v1), .val (.int v2), .val (.int v3), .val (.int k1), .val (.int k2), .val (.int k3), .val (.ref b219), .val (.int kA.toInt32), .val (.int kB.toInt32), .val (.int v2), .val (.int kB.toInt32), .val (.int kB.toInt32), .val (.int (1 : Int32)), .val (.int v2), .val (.int kA.toInt32), .unset, .unset, .unset, .unset, .unset, .unset] [(.int (4 : Int32)), (.int (k3 &&& (3 : Int32))), (.int kB.toInt32)]))
        refine Go.st (fun _ => XS.iload X252.here C.hx rfl (hb C.hby at_185) rfl) ?_
        show Go p e below s n0 _ _ _ (T252.setTop (mkF m 187 #[.val (.int v1), .val (.int v2), .val (.int v3), .val (.int k1), .val (.int k2), .val (.int k3), .val (.ref b219), .val (.int kA.toInt32), .val (.int kB.toInt32), .val (.int v2), .val (.int kB.toInt32), .val (.int kB.toInt32), .val (.int (1 : Int32)), .val (.int v2), .val (.int kA.toInt32), .unset, .unset, .unset, .unset, .unset, .unset] [(.int kB.toInt32), (.int (4 : Int32)), (.int (k3 &&& (3 : Int32))), (.int kB.toInt32)]))
        refine Go.st (fun _ => XS.isub X252.here C.hx rfl (hb C.hby at_187) rfl) ?_
        show Go p e below s n0 _ _ _ (T252.setTop (mkF m 188 #[.val (.int v1), .val (.int v2), .val (.int v3), .val (.int k1), .val (.int k2), .val (.int k3), .val (.ref b219), .val (.int kA.toInt32), .val (.int kB.toInt32), .val (.int v2), .val (.int kB.toInt32), .val (.int kB.toInt32), .val (.int (1 : Int32)), .val (.int v2), .val (.int kA.toInt32), .unset, .unset, .unset, .unset, .unset, .unset] [(.int ((4 : Int32) - kB.toInt32)), (.int (k3 &&& (3 : Int32))), (.int kB.toInt32)]))
        refine Go.irem C X252 (sub4 hB4) at_188 ?_
        show Go p e below s n0 _ _ _ (T252.setTop (mkF m 189 #[.val (.int v1), .val (.int v2), .val (.int v3), .val (.int k1), .val (.int k2), .val (.int k3), .val (.ref b219), .val (.int kA.toInt32), .val (.int kB.toInt32), .val (.int v2), .val (.int kB.toInt32), .val (.int kB.toInt32), .val (.int (1 : Int32)), .val (.int v2), .val (.int kA.toInt32), .unset, .unset, .unset, .unset, .unset, .unset] [(.int ((k3 &&& (3 : Int32)) % ((4 : Int32) - kB.toInt32))), (.int kB.toInt32)]))
        refine Go.st (fun _ => XS.iadd X252.here C.hx rfl (hb C.hby at_189) rfl) ?_
        show Go p e below s n0 _ _ _ (T252.setTop (mkF m 190 #[.val (.int v1), .val (.int v2), .val (.int v3), .val (.int k1), .val (.int k2), .val (.int k3), .val (.ref b219), .val (.int kA.toInt32), .val (.int kB.toInt32), .val (.int v2), .val (.int kB.toInt32), .val (.int kB.toInt32), .val (.int (1 : Int32)), .val (.int v2), .val (.int kA.toInt32), .unset, .unset, .unset, .unset, .unset, .unset] [(.int (kB.toInt32 + ((k3 &&& (3 : Int32)) % ((4 : Int32) - kB.toInt32))))]))
        generalize hg_kc : (kB.toInt32 + ((k3 &&& (3 : Int32)) % ((4 : Int32) - kB.toInt32))) = kc
        refine Go.st (fun _ => XS.istore X252.here C.hx rfl (hb C.hby at_190) rfl (l' := #[.val (.int v1), .val (.int v2), .val (.int v3), .val (.int k1), .val (.int k2), .val (.int k3), .val (.ref b219), .val (.int kA.toInt32), .val (.int kB.toInt32), .val (.int v2), .val (.int kB.toInt32), .val (.int kB.toInt32), .val (.int (1 : Int32)), .val (.int v2), .val (.int kA.toInt32), .val (.int kc), .unset, .unset, .unset, .unset, .unset]) rfl) ?_
        obtain ⟨kC, hmC, hC4, rfl⟩ := kcOk hB4 hg_kc
        have hB := allB ⟨kA, hA4⟩ ⟨kB, hB4⟩ ⟨kC, hC4⟩ (by show (if kA < kB then kA else kB) ≤ kC; rw [if_neg hAB]; exact hmC)
        simp only [chkB, Bool.and_eq_true, decide_eq_true_eq] at hB
        obtain ⟨⟨⟨⟨⟨⟨⟨⟨⟨⟨fv4, fv5⟩, fv6⟩, fb4⟩, fb5⟩, fb6⟩, fk1⟩, fe1⟩, fk2⟩, fe2⟩, fk3⟩ := hB
        replace fv4 := vB_ok fv4
        replace fv5 := vB_ok fv5
        replace fv6 := vB_ok fv6
        have lO4 : (bO4 4 kA kB kC).length = 3 := by unfold bO4; rw [List.length_set]; exact lO2
        have rk : bRk kA kB = kA := by unfold bRk; rw [if_neg hAB]
        have re : bRe kA kB = 0 := by unfold bRe; rw [if_neg hAB]
        rw [rk] at fk1 fe1 fk2 fe2
        rw [re] at fe1 fe2
        by_cases hRC : kA < kC
        · rw [if_pos hRC] at fk1 fe1 fk2 fe2
          rw [if_pos hRC] at fe1 fe2
          unfold bK2 bK1 bK0 at fk3
          unfold bK2 bK1 bK0 at fk2
          unfold bK1 bK0 at fk1
          rw [fk0] at fk1 fk2 fk3
          rw [fk1] at fk2 fk3
          rw [fk2] at fk3
          show Go p e below s n0 _ _ _ (T252.setTop (mkF m 192 #[.val (.int v1), .val (.int v2), .val (.int v3), .val (.int k1), .val (.int k2), .val (.int k3), .val (.ref b219), .val (.int kA.toInt32), .val (.int kB.toInt32), .val (.int v2), .val (.int kB.toInt32), .val (.int kB.toInt32), .val (.int (1 : Int32)), .val (.int v2), .val (.int kA.toInt32), .val (.int kC.toInt32), .unset, .unset, .unset, .unset, .unset] []))
          refine Go.st (fun _ => XS.aload X252.here C.hx rfl (hb C.hby at_192) rfl rfl) ?_
          show Go p e below s n0 _ _ _ (T252.setTop (mkF m 194 #[.val (.int v1), .val (.int v2), .val (.int v3), .val (.int k1), .val (.int k2), .val (.int k3), .val (.ref b219), .val (.int kA.toInt32), .val (.int kB.toInt32), .val (.int v2), .val (.int kB.toInt32), .val (.int kB.toInt32), .val (.int (1 : Int32)), .val (.int v2), .val (.int kA.toInt32), .val (.int kC.toInt32), .unset, .unset, .unset, .unset, .unset] [(.ref b219)]))
          refine Go.st (fun _ => XS.iloadN X252.here C.hx rfl (hb C.hby at_194) rfl) ?_
          show Go p e below s n0 _ _ _ (T252.setTop (mkF m 195 #[.val (.int v1), .val (.int v2), .val (.int v3), .val (.int k1), .val (.int k2), .val (.int k3), .val (.ref b219), .val (.int kA.toInt32), .val (.int kB.toInt32), .val (.int v2), .val (.int kB.toInt32), .val (.int kB.toInt32), .val (.int (1 : Int32)), .val (.int v2), .val (.int kA.toInt32), .val (.int kC.toInt32), .unset, .unset, .unset, .unset, .unset] [(.int v3), (.ref b219)]))
          refine Go.st (fun _ => XS.iload X252.here C.hx rfl (hb C.hby at_195) rfl) ?_
          show Go p e below s n0 _ _ _ (T252.setTop (mkF m 197 #[.val (.int v1), .val (.int v2), .val (.int v3), .val (.int k1), .val (.int k2), .val (.int k3), .val (.ref b219), .val (.int kA.toInt32), .val (.int kB.toInt32), .val (.int v2), .val (.int kB.toInt32), .val (.int kB.toInt32), .val (.int (1 : Int32)), .val (.int v2), .val (.int kA.toInt32), .val (.int kC.toInt32), .unset, .unset, .unset, .unset, .unset] [(.int kC.toInt32), (.int v3), (.ref b219)]))
          refine Go.callV C X252 (W := 0) (argsL := [(.int v3), (.int kC.toInt32)]) (rest := []) (a := b219) (BB250).1 (wd 29 rfl) (wd 30 rfl) (wd 32 rfl) (wd 31 rfl) (wd 2 rfl) (wd 33 rfl) (by decide) rfl (con_put l Z a0 hw n0 h250 X252.size b219 a1_220 a2_220 a3_220 (bN3 4 kA kB) (bO2 4 kA kB) [v1, v2, 0] 2 ((kB : Nat).toInt32) v3 kC.toInt32 kC DD220 (by decide) rfl lO2 rfl (by rw [fa3]; exact hC4) (by rw [fa3]; decide) BB250) (by decide) (by decide) rfl (lenOf pd_5 rfl) (Nat.le_of_ble_eq_true rfl) rfl at_197 (by decide) (by decide) (fun T259 h259 v259 X259 hQ259 => ?_)
          obtain ⟨rfl, BA259⟩ := hQ259
          have BB259 : BQ Z h259 b219 a1_220 a2_220 a3_220 (bN4 4 kA kB kC) (bO4 4 kA kB kC) [v1, v2, v3] (3 : Nat).toInt32 (kB : Nat).toInt32 := BA259
          show Go p e below s n0 _ _ _ (T259.setTop (mkF m 200 #[.val (.int v1), .val (.int v2), .val (.int v3), .val (.int k1), .val (.int k2), .val (.int k3), .val (.ref b219), .val (.int kA.toInt32), .val (.int kB.toInt32), .val (.int v2), .val (.int kB.toInt32), .val (.int kB.toInt32), .val (.int (1 : Int32)), .val (.int v2), .val (.int kA.toInt32), .val (.int kC.toInt32), .unset, .unset, .unset, .unset, .unset] []))
          refine Go.st (fun _ => XS.aload X259.here C.hx rfl (hb C.hby at_200) rfl rfl) ?_
          show Go p e below s n0 _ _ _ (T259.setTop (mkF m 202 #[.val (.int v1), .val (.int v2), .val (.int v3), .val (.int k1), .val (.int k2), .val (.int k3), .val (.ref b219), .val (.int kA.toInt32), .val (.int kB.toInt32), .val (.int v2), .val (.int kB.toInt32), .val (.int kB.toInt32), .val (.int (1 : Int32)), .val (.int v2), .val (.int kA.toInt32), .val (.int kC.toInt32), .unset, .unset, .unset, .unset, .unset] [(.ref b219)]))
          refine Go.callV C X259 (W := 0) (argsL := []) (rest := []) (a := b219) (BB259).1 (wd 34 rfl) (wd 35 rfl) (wd 37 rfl) (wd 36 rfl) (wd 2 rfl) (wd 38 rfl) (by decide) rfl (con_take l Z a0 hw n0 h259 X259.size b219 a1_220 a2_220 a3_220 (bN4 4 kA kB kC) (bO4 4 kA kB kC) [v1, v2, v3] ((3 : Nat).toInt32) ((kB : Nat).toInt32) kB DD220 rfl lO4 (by rw [fb4]; decide) fv4 rfl (by rw [fb4]; omega) BB259) (by decide) (by decide) rfl (lenOf pd_6 rfl) (Nat.le_of_ble_eq_true rfl) rfl at_202 (by decide) (by decide) (fun T260 h260 v260 X260 hQ260 => ?_)
          obtain ⟨rfl, BA260⟩ := hQ260
          rw [tkV_hit (e := 0) fb4 fk1 (by omega) fe1]
          have BB260 : BQ Z h260 b219 a1_220 a2_220 a3_220 (bN5 4 kA kB kC) (bO4 4 kA kB kC) [v1, v2, v3] (3 : Nat).toInt32 (kA : Nat).toInt32 := by have u := BA260; rw [fk1] at u; rw [show bN5 4 kA kB kC = tkN (bN4 4 kA kB kC) (bO4 4 kA kB kC) kB from by unfold bN5 bK0; rw [fk0]]; exact u
          show Go p e below s n0 _ _ _ (T260.setTop (mkF m 205 #[.val (.int v1), .val (.int v2), .val (.int v3), .val (.int k1), .val (.int k2), .val (.int k3), .val (.ref b219), .val (.int kA.toInt32), .val (.int kB.toInt32), .val (.int v2), .val (.int kB.toInt32), .val (.int kB.toInt32), .val (.int (1 : Int32)), .val (.int v2), .val (.int kA.toInt32), .val (.int kC.toInt32), .unset, .unset, .unset, .unset, .unset] [(.int v1)]))
          refine Go.st (fun _ => XS.istore X260.here C.hx rfl (hb C.hby at_205) rfl (l' := #[.val (.int v1), .val (.int v2), .val (.int v3), .val (.int k1), .val (.int k2), .val (.int k3), .val (.ref b219), .val (.int kA.toInt32), .val (.int kB.toInt32), .val (.int v2), .val (.int kB.toInt32), .val (.int kB.toInt32), .val (.int (1 : Int32)), .val (.int v2), .val (.int kA.toInt32), .val (.int kC.toInt32), .val (.int v1), .unset, .unset, .unset, .unset]) rfl) ?_
          show Go p e below s n0 _ _ _ (T260.setTop (mkF m 207 #[.val (.int v1), .val (.int v2), .val (.int v3), .val (.int k1), .val (.int k2), .val (.int k3), .val (.ref b219), .val (.int kA.toInt32), .val (.int kB.toInt32), .val (.int v2), .val (.int kB.toInt32), .val (.int kB.toInt32), .val (.int (1 : Int32)), .val (.int v2), .val (.int kA.toInt32), .val (.int kC.toInt32), .val (.int v1), .unset, .unset, .unset, .unset] []))
          refine Go.st (fun _ => XS.aload X260.here C.hx rfl (hb C.hby at_207) rfl rfl) ?_
          show Go p e below s n0 _ _ _ (T260.setTop (mkF m 209 #[.val (.int v1), .val (.int v2), .val (.int v3), .val (.int k1), .val (.int k2), .val (.int k3), .val (.ref b219), .val (.int kA.toInt32), .val (.int kB.toInt32), .val (.int v2), .val (.int kB.toInt32), .val (.int kB.toInt32), .val (.int (1 : Int32)), .val (.int v2), .val (.int kA.toInt32), .val (.int kC.toInt32), .val (.int v1), .unset, .unset, .unset, .unset] [(.ref b219)]))
          refine Go.callV C X260 (W := 0) (argsL := []) (rest := []) (a := b219) (BB260).1 (wd 39 rfl) (wd 40 rfl) (wd 42 rfl) (wd 41 rfl) (wd 2 rfl) (wd 43 rfl) (by decide) rfl (con_key l Z a0 hw n0 h260 X260.size b219 a1_220 a2_220 a3_220 (bN5 4 kA kB kC) (bO4 4 kA kB kC) [v1, v2, v3] _ _ BB260) (by decide) (by decide) rfl (lenOf pd_7 rfl) (Nat.le_of_ble_eq_true rfl) rfl at_209 (by decide) (by decide) (fun T261 h261 v261 X261 hQ261 => ?_)
          obtain ⟨rfl, hh261⟩ := hQ261
          rw [hh261] at X261
          show Go p e below s n0 _ _ _ (T261.setTop (mkF m 212 #[.val (.int v1), .val (.int v2), .val (.int v3), .val (.int k1), .val (.int k2), .val (.int k3), .val (.ref b219), .val (.int kA.toInt32), .val (.int kB.toInt32), .val (.int v2), .val (.int kB.toInt32), .val (.int kB.toInt32), .val (.int (1 : Int32)), .val (.int v2), .val (.int kA.toInt32), .val (.int kC.toInt32), .val (.int v1), .unset, .unset, .unset, .unset] [(.int kA.toInt32)]))
          refine Go.st (fun _ => XS.istore X261.here C.hx rfl (hb C.hby at_212) rfl (l' := #[.val (.int v1), .val (.int v2), .val (.int v3), .val (.int k1), .val (.int k2), .val (.int k3), .val (.ref b219), .val (.int kA.toInt32), .val (.int kB.toInt32), .val (.int v2), .val (.int kB.toInt32), .val (.int kB.toInt32), .val (.int (1 : Int32)), .val (.int v2), .val (.int kA.toInt32), .val (.int kC.toInt32), .val (.int v1), .val (.int kA.toInt32), .unset, .unset, .unset]) rfl) ?_
          show Go p e below s n0 _ _ _ (T261.setTop (mkF m 214 #[.val (.int v1), .val (.int v2), .val (.int v3), .val (.int k1), .val (.int k2), .val (.int k3), .val (.ref b219), .val (.int kA.toInt32), .val (.int kB.toInt32), .val (.int v2), .val (.int kB.toInt32), .val (.int kB.toInt32), .val (.int (1 : Int32)), .val (.int v2), .val (.int kA.toInt32), .val (.int kC.toInt32), .val (.int v1), .val (.int kA.toInt32), .unset, .unset, .unset] []))
          refine Go.st (fun _ => XS.aload X261.here C.hx rfl (hb C.hby at_214) rfl rfl) ?_
          show Go p e below s n0 _ _ _ (T261.setTop (mkF m 216 #[.val (.int v1), .val (.int v2), .val (.int v3), .val (.int k1), .val (.int k2), .val (.int k3), .val (.ref b219), .val (.int kA.toInt32), .val (.int kB.toInt32), .val (.int v2), .val (.int kB.toInt32), .val (.int kB.toInt32), .val (.int (1 : Int32)), .val (.int v2), .val (.int kA.toInt32), .val (.int kC.toInt32), .val (.int v1), .val (.int kA.toInt32), .unset, .unset, .unset] [(.ref b219)]))
          refine Go.callV C X261 (W := 0) (argsL := []) (rest := []) (a := b219) (BB260).1 (wd 34 rfl) (wd 35 rfl) (wd 37 rfl) (wd 36 rfl) (wd 2 rfl) (wd 38 rfl) (by decide) rfl (con_take l Z a0 hw n0 h260 X261.size b219 a1_220 a2_220 a3_220 (bN5 4 kA kB kC) (bO4 4 kA kB kC) [v1, v2, v3] ((3 : Nat).toInt32) ((kA : Nat).toInt32) kA DD220 rfl lO4 (by rw [fb5]; decide) fv5 rfl (by rw [fb5]; omega) BB260) (by decide) (by decide) rfl (lenOf pd_6 rfl) (Nat.le_of_ble_eq_true rfl) rfl at_216 (by decide) (by decide) (fun T262 h262 v262 X262 hQ262 => ?_)
          obtain ⟨rfl, BA262⟩ := hQ262
          rw [tkV_hit (e := 2) fb5 fk2 (by omega) fe2]
          have BB262 : BQ Z h262 b219 a1_220 a2_220 a3_220 (bN6 4 kA kB kC) (bO4 4 kA kB kC) [v1, v2, v3] (3 : Nat).toInt32 (kC : Nat).toInt32 := by have u := BA262; rw [fk2] at u; rw [show bN6 4 kA kB kC = tkN (bN5 4 kA kB kC) (bO4 4 kA kB kC) kA from by unfold bN6 bK1 bK0; rw [fk0, fk1]]; exact u
          show Go p e below s n0 _ _ _ (T262.setTop (mkF m 219 #[.val (.int v1), .val (.int v2), .val (.int v3), .val (.int k1), .val (.int k2), .val (.int k3), .val (.ref b219), .val (.int kA.toInt32), .val (.int kB.toInt32), .val (.int v2), .val (.int kB.toInt32), .val (.int kB.toInt32), .val (.int (1 : Int32)), .val (.int v2), .val (.int kA.toInt32), .val (.int kC.toInt32), .val (.int v1), .val (.int kA.toInt32), .unset, .unset, .unset] [(.int v3)]))
          refine Go.st (fun _ => XS.istore X262.here C.hx rfl (hb C.hby at_219) rfl (l' := #[.val (.int v1), .val (.int v2), .val (.int v3), .val (.int k1), .val (.int k2), .val (.int k3), .val (.ref b219), .val (.int kA.toInt32), .val (.int kB.toInt32), .val (.int v2), .val (.int kB.toInt32), .val (.int kB.toInt32), .val (.int (1 : Int32)), .val (.int v2), .val (.int kA.toInt32), .val (.int kC.toInt32), .val (.int v1), .val (.int kA.toInt32), .val (.int v3), .unset, .unset]) rfl) ?_
          show Go p e below s n0 _ _ _ (T262.setTop (mkF m 221 #[.val (.int v1), .val (.int v2), .val (.int v3), .val (.int k1), .val (.int k2), .val (.int k3), .val (.ref b219), .val (.int kA.toInt32), .val (.int kB.toInt32), .val (.int v2), .val (.int kB.toInt32), .val (.int kB.toInt32), .val (.int (1 : Int32)), .val (.int v2), .val (.int kA.toInt32), .val (.int kC.toInt32), .val (.int v1), .val (.int kA.toInt32), .val (.int v3), .unset, .unset] []))
          refine Go.st (fun _ => XS.aload X262.here C.hx rfl (hb C.hby at_221) rfl rfl) ?_
          show Go p e below s n0 _ _ _ (T262.setTop (mkF m 223 #[.val (.int v1), .val (.int v2), .val (.int v3), .val (.int k1), .val (.int k2), .val (.int k3), .val (.ref b219), .val (.int kA.toInt32), .val (.int kB.toInt32), .val (.int v2), .val (.int kB.toInt32), .val (.int kB.toInt32), .val (.int (1 : Int32)), .val (.int v2), .val (.int kA.toInt32), .val (.int kC.toInt32), .val (.int v1), .val (.int kA.toInt32), .val (.int v3), .unset, .unset] [(.ref b219)]))
          refine Go.callV C X262 (W := 0) (argsL := []) (rest := []) (a := b219) (BB262).1 (wd 39 rfl) (wd 40 rfl) (wd 42 rfl) (wd 41 rfl) (wd 2 rfl) (wd 43 rfl) (by decide) rfl (con_key l Z a0 hw n0 h262 X262.size b219 a1_220 a2_220 a3_220 (bN6 4 kA kB kC) (bO4 4 kA kB kC) [v1, v2, v3] _ _ BB262) (by decide) (by decide) rfl (lenOf pd_7 rfl) (Nat.le_of_ble_eq_true rfl) rfl at_223 (by decide) (by decide) (fun T263 h263 v263 X263 hQ263 => ?_)
          obtain ⟨rfl, hh263⟩ := hQ263
          rw [hh263] at X263
          show Go p e below s n0 _ _ _ (T263.setTop (mkF m 226 #[.val (.int v1), .val (.int v2), .val (.int v3), .val (.int k1), .val (.int k2), .val (.int k3), .val (.ref b219), .val (.int kA.toInt32), .val (.int kB.toInt32), .val (.int v2), .val (.int kB.toInt32), .val (.int kB.toInt32), .val (.int (1 : Int32)), .val (.int v2), .val (.int kA.toInt32), .val (.int kC.toInt32), .val (.int v1), .val (.int kA.toInt32), .val (.int v3), .unset, .unset] [(.int kC.toInt32)]))
          refine Go.st (fun _ => XS.istore X263.here C.hx rfl (hb C.hby at_226) rfl (l' := #[.val (.int v1), .val (.int v2), .val (.int v3), .val (.int k1), .val (.int k2), .val (.int k3), .val (.ref b219), .val (.int kA.toInt32), .val (.int kB.toInt32), .val (.int v2), .val (.int kB.toInt32), .val (.int kB.toInt32), .val (.int (1 : Int32)), .val (.int v2), .val (.int kA.toInt32), .val (.int kC.toInt32), .val (.int v1), .val (.int kA.toInt32), .val (.int v3), .val (.int kC.toInt32), .unset]) rfl) ?_
          show Go p e below s n0 _ _ _ (T263.setTop (mkF m 228 #[.val (.int v1), .val (.int v2), .val (.int v3), .val (.int k1), .val (.int k2), .val (.int k3), .val (.ref b219), .val (.int kA.toInt32), .val (.int kB.toInt32), .val (.int v2), .val (.int kB.toInt32), .val (.int kB.toInt32), .val (.int (1 : Int32)), .val (.int v2), .val (.int kA.toInt32), .val (.int kC.toInt32), .val (.int v1), .val (.int kA.toInt32), .val (.int v3), .val (.int kC.toInt32), .unset] []))
          refine Go.st (fun _ => XS.aload X263.here C.hx rfl (hb C.hby at_228) rfl rfl) ?_
          show Go p e below s n0 _ _ _ (T263.setTop (mkF m 230 #[.val (.int v1), .val (.int v2), .val (.int v3), .val (.int k1), .val (.int k2), .val (.int k3), .val (.ref b219), .val (.int kA.toInt32), .val (.int kB.toInt32), .val (.int v2), .val (.int kB.toInt32), .val (.int kB.toInt32), .val (.int (1 : Int32)), .val (.int v2), .val (.int kA.toInt32), .val (.int kC.toInt32), .val (.int v1), .val (.int kA.toInt32), .val (.int v3), .val (.int kC.toInt32), .unset] [(.ref b219)]))
          refine Go.callV C X263 (W := 0) (argsL := []) (rest := []) (a := b219) (BB262).1 (wd 34 rfl) (wd 35 rfl) (wd 37 rfl) (wd 36 rfl) (wd 2 rfl) (wd 38 rfl) (by decide) rfl (con_take l Z a0 hw n0 h262 X263.size b219 a1_220 a2_220 a3_220 (bN6 4 kA kB kC) (bO4 4 kA kB kC) [v1, v2, v3] ((3 : Nat).toInt32) ((kC : Nat).toInt32) kC DD220 rfl lO4 (by rw [fb6]; decide) fv6 rfl (by rw [fb6]; omega) BB262) (by decide) (by decide) rfl (lenOf pd_6 rfl) (Nat.le_of_ble_eq_true rfl) rfl at_230 (by decide) (by decide) (fun T264 h264 v264 X264 hQ264 => ?_)
          obtain ⟨rfl, BA264⟩ := hQ264
          rw [tkV_end fb6 fk3]
          have BB264 : BQ Z h264 b219 a1_220 a2_220 a3_220 (tkN (bN6 4 kA kB kC) (bO4 4 kA kB kC) kC) (bO4 4 kA kB kC) [v1, v2, v3] (3 : Nat).toInt32 (4 : Nat).toInt32 := by have u := BA264; rw [fk3] at u; exact u
          show Go p e below s n0 _ _ _ (T264.setTop (mkF m 233 #[.val (.int v1), .val (.int v2), .val (.int v3), .val (.int k1), .val (.int k2), .val (.int k3), .val (.ref b219), .val (.int kA.toInt32), .val (.int kB.toInt32), .val (.int v2), .val (.int kB.toInt32), .val (.int kB.toInt32), .val (.int (1 : Int32)), .val (.int v2), .val (.int kA.toInt32), .val (.int kC.toInt32), .val (.int v1), .val (.int kA.toInt32), .val (.int v3), .val (.int kC.toInt32), .unset] [(.int (-1 : Int32))]))
          refine Go.st (fun _ => XS.istore X264.here C.hx rfl (hb C.hby at_233) rfl (l' := #[.val (.int v1), .val (.int v2), .val (.int v3), .val (.int k1), .val (.int k2), .val (.int k3), .val (.ref b219), .val (.int kA.toInt32), .val (.int kB.toInt32), .val (.int v2), .val (.int kB.toInt32), .val (.int kB.toInt32), .val (.int (1 : Int32)), .val (.int v2), .val (.int kA.toInt32), .val (.int kC.toInt32), .val (.int v1), .val (.int kA.toInt32), .val (.int v3), .val (.int kC.toInt32), .val (.int (-1 : Int32))]) rfl) ?_
          show Go p e below s n0 _ _ _ (T264.setTop (mkF m 235 #[.val (.int v1), .val (.int v2), .val (.int v3), .val (.int k1), .val (.int k2), .val (.int k3), .val (.ref b219), .val (.int kA.toInt32), .val (.int kB.toInt32), .val (.int v2), .val (.int kB.toInt32), .val (.int kB.toInt32), .val (.int (1 : Int32)), .val (.int v2), .val (.int kA.toInt32), .val (.int kC.toInt32), .val (.int v1), .val (.int kA.toInt32), .val (.int v3), .val (.int kC.toInt32), .val (.int (-1 : Int32))] []))
          refine Go.st (fun _ => XS.iload X264.here C.hx rfl (hb C.hby at_235) rfl) ?_
          show Go p e below s n0 _ _ _ (T264.setTop (mkF m 237 #[.val (.int v1), .val (.int v2), .val (.int v3), .val (.int k1), .val (.int k2), .val (.int k3), .val (.ref b219), .val (.int kA.toInt32), .val (.int kB.toInt32), .val (.int v2), .val (.int kB.toInt32), .val (.int kB.toInt32), .val (.int (1 : Int32)), .val (.int v2), .val (.int kA.toInt32), .val (.int kC.toInt32), .val (.int v1), .val (.int kA.toInt32), .val (.int v3), .val (.int kC.toInt32), .val (.int (-1 : Int32))] [(.int (1 : Int32))]))
          refine Go.if_eq C X264 (pc' := 271) at_237 (by decide) (by decide) (fun hc => absurd hc (by decide)) (fun _ => ?_)
          show Go p e below s n0 _ _ _ (T264.setTop (mkF m 240 #[.val (.int v1), .val (.int v2), .val (.int v3), .val (.int k1), .val (.int k2), .val (.int k3), .val (.ref b219), .val (.int kA.toInt32), .val (.int kB.toInt32), .val (.int v2), .val (.int kB.toInt32), .val (.int kB.toInt32), .val (.int (1 : Int32)), .val (.int v2), .val (.int kA.toInt32), .val (.int kC.toInt32), .val (.int v1), .val (.int kA.toInt32), .val (.int v3), .val (.int kC.toInt32), .val (.int (-1 : Int32))] []))
          refine Go.st (fun _ => XS.iload X264.here C.hx rfl (hb C.hby at_240) rfl) ?_
          show Go p e below s n0 _ _ _ (T264.setTop (mkF m 242 #[.val (.int v1), .val (.int v2), .val (.int v3), .val (.int k1), .val (.int k2), .val (.int k3), .val (.ref b219), .val (.int kA.toInt32), .val (.int kB.toInt32), .val (.int v2), .val (.int kB.toInt32), .val (.int kB.toInt32), .val (.int (1 : Int32)), .val (.int v2), .val (.int kA.toInt32), .val (.int kC.toInt32), .val (.int v1), .val (.int kA.toInt32), .val (.int v3), .val (.int kC.toInt32), .val (.int (-1 : Int32))] [(.int v1)]))
          refine Go.st (fun _ => XS.iload X264.here C.hx rfl (hb C.hby at_242) rfl) ?_
          show Go p e below s n0 _ _ _ (T264.setTop (mkF m 244 #[.val (.int v1), .val (.int v2), .val (.int v3), .val (.int k1), .val (.int k2), .val (.int k3), .val (.ref b219), .val (.int kA.toInt32), .val (.int kB.toInt32), .val (.int v2), .val (.int kB.toInt32), .val (.int kB.toInt32), .val (.int (1 : Int32)), .val (.int v2), .val (.int kA.toInt32), .val (.int kC.toInt32), .val (.int v1), .val (.int kA.toInt32), .val (.int v3), .val (.int kC.toInt32), .val (.int (-1 : Int32))] [(.int kA.toInt32), (.int v1)]))
          refine Go.st (fun _ => XS.iload X264.here C.hx rfl (hb C.hby at_244) rfl) ?_
          show Go p e below s n0 _ _ _ (T264.setTop (mkF m 246 #[.val (.int v1), .val (.int v2), .val (.int v3), .val (.int k1), .val (.int k2), .val (.int k3), .val (.ref b219), .val (.int kA.toInt32), .val (.int kB.toInt32), .val (.int v2), .val (.int kB.toInt32), .val (.int kB.toInt32), .val (.int (1 : Int32)), .val (.int v2), .val (.int kA.toInt32), .val (.int kC.toInt32), .val (.int v1), .val (.int kA.toInt32), .val (.int v3), .val (.int kC.toInt32), .val (.int (-1 : Int32))] [(.int v3), (.int kA.toInt32), (.int v1)]))
          refine Go.st (fun _ => XS.iload X264.here C.hx rfl (hb C.hby at_246) rfl) ?_
          show Go p e below s n0 _ _ _ (T264.setTop (mkF m 248 #[.val (.int v1), .val (.int v2), .val (.int v3), .val (.int k1), .val (.int k2), .val (.int k3), .val (.ref b219), .val (.int kA.toInt32), .val (.int kB.toInt32), .val (.int v2), .val (.int kB.toInt32), .val (.int kB.toInt32), .val (.int (1 : Int32)), .val (.int v2), .val (.int kA.toInt32), .val (.int kC.toInt32), .val (.int v1), .val (.int kA.toInt32), .val (.int v3), .val (.int kC.toInt32), .val (.int (-1 : Int32))] [(.int kC.toInt32), (.int v3), (.int kA.toInt32), (.int v1)]))
          refine Go.st (fun _ => XS.iload X264.here C.hx rfl (hb C.hby at_248) rfl) ?_
          show Go p e below s n0 _ _ _ (T264.setTop (mkF m 250 #[.val (.int v1), .val (.int v2), .val (.int v3), .val (.int k1), .val (.int k2), .val (.int k3), .val (.ref b219), .val (.int kA.toInt32), .val (.int kB.toInt32), .val (.int v2), .val (.int kB.toInt32), .val (.int kB.toInt32), .val (.int (1 : Int32)), .val (.int v2), .val (.int kA.toInt32), .val (.int kC.toInt32), .val (.int v1), .val (.int kA.toInt32), .val (.int v3), .val (.int kC.toInt32), .val (.int (-1 : Int32))] [(.int v2), (.int kC.toInt32), (.int v3), (.int kA.toInt32), (.int v1)]))
          refine Go.st (fun _ => XS.iload X264.here C.hx rfl (hb C.hby at_250) rfl) ?_
          show Go p e below s n0 _ _ _ (T264.setTop (mkF m 252 #[.val (.int v1), .val (.int v2), .val (.int v3), .val (.int k1), .val (.int k2), .val (.int k3), .val (.ref b219), .val (.int kA.toInt32), .val (.int kB.toInt32), .val (.int v2), .val (.int kB.toInt32), .val (.int kB.toInt32), .val (.int (1 : Int32)), .val (.int v2), .val (.int kA.toInt32), .val (.int kC.toInt32), .val (.int v1), .val (.int kA.toInt32), .val (.int v3), .val (.int kC.toInt32), .val (.int (-1 : Int32))] [(.int kA.toInt32), (.int v2), (.int kC.toInt32), (.int v3), (.int kA.toInt32), (.int v1)]))
          refine Go.st (fun _ => XS.iloadN X264.here C.hx rfl (hb C.hby at_252) rfl) ?_
          show Go p e below s n0 _ _ _ (T264.setTop (mkF m 253 #[.val (.int v1), .val (.int v2), .val (.int v3), .val (.int k1), .val (.int k2), .val (.int k3), .val (.ref b219), .val (.int kA.toInt32), .val (.int kB.toInt32), .val (.int v2), .val (.int kB.toInt32), .val (.int kB.toInt32), .val (.int (1 : Int32)), .val (.int v2), .val (.int kA.toInt32), .val (.int kC.toInt32), .val (.int v1), .val (.int kA.toInt32), .val (.int v3), .val (.int kC.toInt32), .val (.int (-1 : Int32))] [(.int v3), (.int kA.toInt32), (.int v2), (.int kC.toInt32), (.int v3), (.int kA.toInt32), (.int v1)]))
          refine Go.st (fun _ => XS.iload X264.here C.hx rfl (hb C.hby at_253) rfl) ?_
          show Go p e below s n0 _ _ _ (T264.setTop (mkF m 255 #[.val (.int v1), .val (.int v2), .val (.int v3), .val (.int k1), .val (.int k2), .val (.int k3), .val (.ref b219), .val (.int kA.toInt32), .val (.int kB.toInt32), .val (.int v2), .val (.int kB.toInt32), .val (.int kB.toInt32), .val (.int (1 : Int32)), .val (.int v2), .val (.int kA.toInt32), .val (.int kC.toInt32), .val (.int v1), .val (.int kA.toInt32), .val (.int v3), .val (.int kC.toInt32), .val (.int (-1 : Int32))] [(.int kC.toInt32), (.int v3), (.int kA.toInt32), (.int v2), (.int kC.toInt32), (.int v3), (.int kA.toInt32), (.int v1)]))
          refine Go.callS C X264 (W := 0) (argsL := [(.int v1), (.int kA.toInt32), (.int v3), (.int kC.toInt32), (.int v2), (.int kA.toInt32), (.int v3), (.int kC.toInt32)]) (rest := []) (wd 48 rfl) (wd 49 rfl) (wd 50 rfl) (wd 51 rfl) (by decide) (con_pair l Z a0 hw n0 h264 X264.size v1 kA.toInt32 v3 kC.toInt32 v2 kA.toInt32 v3 kC.toInt32) (by decide) (by decide) rfl (lenOf pd_9 rfl) (Nat.le_of_ble_eq_true rfl) rfl at_255 (by decide) (by decide) (fun T266 h266 v266 X266 hQ266 => ?_)
          obtain ⟨rfl, hh266⟩ := hQ266
          rw [hh266] at X266
          rw [show pairF v1 kA.toInt32 v3 kC.toInt32 v2 kA.toInt32 v3 kC.toInt32 = 1 from by simp [pairF, (ltI hA4 hC4).mpr hRC, hc124_255]]
          show Go p e below s n0 _ _ _ (T266.setTop (mkF m 258 #[.val (.int v1), .val (.int v2), .val (.int v3), .val (.int k1), .val (.int k2), .val (.int k3), .val (.ref b219), .val (.int kA.toInt32), .val (.int kB.toInt32), .val (.int v2), .val (.int kB.toInt32), .val (.int kB.toInt32), .val (.int (1 : Int32)), .val (.int v2), .val (.int kA.toInt32), .val (.int kC.toInt32), .val (.int v1), .val (.int kA.toInt32), .val (.int v3), .val (.int kC.toInt32), .val (.int (-1 : Int32))] [(.int (1 : Int32))]))
          refine Go.if_eq C X266 (pc' := 271) at_258 (by decide) (by decide) (fun hc => absurd hc (by decide)) (fun _ => ?_)
          show Go p e below s n0 _ _ _ (T266.setTop (mkF m 261 #[.val (.int v1), .val (.int v2), .val (.int v3), .val (.int k1), .val (.int k2), .val (.int k3), .val (.ref b219), .val (.int kA.toInt32), .val (.int kB.toInt32), .val (.int v2), .val (.int kB.toInt32), .val (.int kB.toInt32), .val (.int (1 : Int32)), .val (.int v2), .val (.int kA.toInt32), .val (.int kC.toInt32), .val (.int v1), .val (.int kA.toInt32), .val (.int v3), .val (.int kC.toInt32), .val (.int (-1 : Int32))] []))
          refine Go.st (fun _ => XS.iload X266.here C.hx rfl (hb C.hby at_261) rfl) ?_
          show Go p e below s n0 _ _ _ (T266.setTop (mkF m 263 #[.val (.int v1), .val (.int v2), .val (.int v3), .val (.int k1), .val (.int k2), .val (.int k3), .val (.ref b219), .val (.int kA.toInt32), .val (.int kB.toInt32), .val (.int v2), .val (.int kB.toInt32), .val (.int kB.toInt32), .val (.int (1 : Int32)), .val (.int v2), .val (.int kA.toInt32), .val (.int kC.toInt32), .val (.int v1), .val (.int kA.toInt32), .val (.int v3), .val (.int kC.toInt32), .val (.int (-1 : Int32))] [(.int (-1 : Int32))]))
          refine Go.st (fun _ => XS.iconst X266.here C.hx rfl (hb C.hby at_263)) ?_
          show Go p e below s n0 _ _ _ (T266.setTop (mkF m 264 #[.val (.int v1), .val (.int v2), .val (.int v3), .val (.int k1), .val (.int k2), .val (.int k3), .val (.ref b219), .val (.int kA.toInt32), .val (.int kB.toInt32), .val (.int v2), .val (.int kB.toInt32), .val (.int kB.toInt32), .val (.int (1 : Int32)), .val (.int v2), .val (.int kA.toInt32), .val (.int kC.toInt32), .val (.int v1), .val (.int kA.toInt32), .val (.int v3), .val (.int kC.toInt32), .val (.int (-1 : Int32))] [(.int (-1 : Int32)), (.int (-1 : Int32))]))
          refine Go.icmp_ne C X266 (pc' := 271) at_264 (by decide) (by decide) (fun hc => absurd hc (by decide)) (fun _ => ?_)
          show Go p e below s n0 _ _ _ (T266.setTop (mkF m 267 #[.val (.int v1), .val (.int v2), .val (.int v3), .val (.int k1), .val (.int k2), .val (.int k3), .val (.ref b219), .val (.int kA.toInt32), .val (.int kB.toInt32), .val (.int v2), .val (.int kB.toInt32), .val (.int kB.toInt32), .val (.int (1 : Int32)), .val (.int v2), .val (.int kA.toInt32), .val (.int kC.toInt32), .val (.int v1), .val (.int kA.toInt32), .val (.int v3), .val (.int kC.toInt32), .val (.int (-1 : Int32))] []))
          refine Go.st (fun _ => XS.iconst X266.here C.hx rfl (hb C.hby at_267)) ?_
          show Go p e below s n0 _ _ _ (T266.setTop (mkF m 268 #[.val (.int v1), .val (.int v2), .val (.int v3), .val (.int k1), .val (.int k2), .val (.int k3), .val (.ref b219), .val (.int kA.toInt32), .val (.int kB.toInt32), .val (.int v2), .val (.int kB.toInt32), .val (.int kB.toInt32), .val (.int (1 : Int32)), .val (.int v2), .val (.int kA.toInt32), .val (.int kC.toInt32), .val (.int v1), .val (.int kA.toInt32), .val (.int v3), .val (.int kC.toInt32), .val (.int (-1 : Int32))] [(.int (1 : Int32))]))
          refine Go.st (fun _ => XS.goto X266.here C.hx rfl (pc0 := 268) (pc' := 272) rfl (hb C.hby at_268) (by decide) (by decide)) ?_
          show Go p e below s n0 _ _ _ (T266.setTop (mkF m 272 #[.val (.int v1), .val (.int v2), .val (.int v3), .val (.int k1), .val (.int k2), .val (.int k3), .val (.ref b219), .val (.int kA.toInt32), .val (.int kB.toInt32), .val (.int v2), .val (.int kB.toInt32), .val (.int kB.toInt32), .val (.int (1 : Int32)), .val (.int v2), .val (.int kA.toInt32), .val (.int kC.toInt32), .val (.int v1), .val (.int kA.toInt32), .val (.int v3), .val (.int kC.toInt32), .val (.int (-1 : Int32))] [(.int (1 : Int32))]))
          exact Go.retZ C X266 (by decide) at_272 rfl (by decide) (by decide)
        · rw [if_neg hRC] at fk1 fe1 fk2 fe2
          rw [if_neg hRC] at fe1 fe2
          unfold bK2 bK1 bK0 at fk3
          unfold bK2 bK1 bK0 at fk2
          unfold bK1 bK0 at fk1
          rw [fk0] at fk1 fk2 fk3
          rw [fk1] at fk2 fk3
          rw [fk2] at fk3
          show Go p e below s n0 _ _ _ (T252.setTop (mkF m 192 #[.val (.int v1), .val (.int v2), .val (.int v3), .val (.int k1), .val (.int k2), .val (.int k3), .val (.ref b219), .val (.int kA.toInt32), .val (.int kB.toInt32), .val (.int v2), .val (.int kB.toInt32), .val (.int kB.toInt32), .val (.int (1 : Int32)), .val (.int v2), .val (.int kA.toInt32), .val (.int kC.toInt32), .unset, .unset, .unset, .unset, .unset] []))
          refine Go.st (fun _ => XS.aload X252.here C.hx rfl (hb C.hby at_192) rfl rfl) ?_
          show Go p e below s n0 _ _ _ (T252.setTop (mkF m 194 #[.val (.int v1), .val (.int v2), .val (.int v3), .val (.int k1), .val (.int k2), .val (.int k3), .val (.ref b219), .val (.int kA.toInt32), .val (.int kB.toInt32), .val (.int v2), .val (.int kB.toInt32), .val (.int kB.toInt32), .val (.int (1 : Int32)), .val (.int v2), .val (.int kA.toInt32), .val (.int kC.toInt32), .unset, .unset, .unset, .unset, .unset] [(.ref b219)]))
          refine Go.st (fun _ => XS.iloadN X252.here C.hx rfl (hb C.hby at_194) rfl) ?_
          show Go p e below s n0 _ _ _ (T252.setTop (mkF m 195 #[.val (.int v1), .val (.int v2), .val (.int v3), .val (.int k1), .val (.int k2), .val (.int k3), .val (.ref b219), .val (.int kA.toInt32), .val (.int kB.toInt32), .val (.int v2), .val (.int kB.toInt32), .val (.int kB.toInt32), .val (.int (1 : Int32)), .val (.int v2), .val (.int kA.toInt32), .val (.int kC.toInt32), .unset, .unset, .unset, .unset, .unset] [(.int v3), (.ref b219)]))
          refine Go.st (fun _ => XS.iload X252.here C.hx rfl (hb C.hby at_195) rfl) ?_
          show Go p e below s n0 _ _ _ (T252.setTop (mkF m 197 #[.val (.int v1), .val (.int v2), .val (.int v3), .val (.int k1), .val (.int k2), .val (.int k3), .val (.ref b219), .val (.int kA.toInt32), .val (.int kB.toInt32), .val (.int v2), .val (.int kB.toInt32), .val (.int kB.toInt32), .val (.int (1 : Int32)), .val (.int v2), .val (.int kA.toInt32), .val (.int kC.toInt32), .unset, .unset, .unset, .unset, .unset] [(.int kC.toInt32), (.int v3), (.ref b219)]))
          refine Go.callV C X252 (W := 0) (argsL := [(.int v3), (.int kC.toInt32)]) (rest := []) (a := b219) (BB250).1 (wd 29 rfl) (wd 30 rfl) (wd 32 rfl) (wd 31 rfl) (wd 2 rfl) (wd 33 rfl) (by decide) rfl (con_put l Z a0 hw n0 h250 X252.size b219 a1_220 a2_220 a3_220 (bN3 4 kA kB) (bO2 4 kA kB) [v1, v2, 0] 2 ((kB : Nat).toInt32) v3 kC.toInt32 kC DD220 (by decide) rfl lO2 rfl (by rw [fa3]; exact hC4) (by rw [fa3]; decide) BB250) (by decide) (by decide) rfl (lenOf pd_5 rfl) (Nat.le_of_ble_eq_true rfl) rfl at_197 (by decide) (by decide) (fun T269 h269 v269 X269 hQ269 => ?_)
          obtain ⟨rfl, BA269⟩ := hQ269
          have BB269 : BQ Z h269 b219 a1_220 a2_220 a3_220 (bN4 4 kA kB kC) (bO4 4 kA kB kC) [v1, v2, v3] (3 : Nat).toInt32 (kB : Nat).toInt32 := BA269
          show Go p e below s n0 _ _ _ (T269.setTop (mkF m 200 #[.val (.int v1), .val (.int v2), .val (.int v3), .val (.int k1), .val (.int k2), .val (.int k3), .val (.ref b219), .val (.int kA.toInt32), .val (.int kB.toInt32), .val (.int v2), .val (.int kB.toInt32), .val (.int kB.toInt32), .val (.int (1 : Int32)), .val (.int v2), .val (.int kA.toInt32), .val (.int kC.toInt32), .unset, .unset, .unset, .unset, .unset] []))
          refine Go.st (fun _ => XS.aload X269.here C.hx rfl (hb C.hby at_200) rfl rfl) ?_
          show Go p e below s n0 _ _ _ (T269.setTop (mkF m 202 #[.val (.int v1), .val (.int v2), .val (.int v3), .val (.int k1), .val (.int k2), .val (.int k3), .val (.ref b219), .val (.int kA.toInt32), .val (.int kB.toInt32), .val (.int v2), .val (.int kB.toInt32), .val (.int kB.toInt32), .val (.int (1 : Int32)), .val (.int v2), .val (.int kA.toInt32), .val (.int kC.toInt32), .unset, .unset, .unset, .unset, .unset] [(.ref b219)]))
          refine Go.callV C X269 (W := 0) (argsL := []) (rest := []) (a := b219) (BB269).1 (wd 34 rfl) (wd 35 rfl) (wd 37 rfl) (wd 36 rfl) (wd 2 rfl) (wd 38 rfl) (by decide) rfl (con_take l Z a0 hw n0 h269 X269.size b219 a1_220 a2_220 a3_220 (bN4 4 kA kB kC) (bO4 4 kA kB kC) [v1, v2, v3] ((3 : Nat).toInt32) ((kB : Nat).toInt32) kB DD220 rfl lO4 (by rw [fb4]; decide) fv4 rfl (by rw [fb4]; omega) BB269) (by decide) (by decide) rfl (lenOf pd_6 rfl) (Nat.le_of_ble_eq_true rfl) rfl at_202 (by decide) (by decide) (fun T270 h270 v270 X270 hQ270 => ?_)
          obtain ⟨rfl, BA270⟩ := hQ270
          rw [tkV_hit (e := 2) fb4 fk1 (by omega) fe1]
          have BB270 : BQ Z h270 b219 a1_220 a2_220 a3_220 (bN5 4 kA kB kC) (bO4 4 kA kB kC) [v1, v2, v3] (3 : Nat).toInt32 (kC : Nat).toInt32 := by have u := BA270; rw [fk1] at u; rw [show bN5 4 kA kB kC = tkN (bN4 4 kA kB kC) (bO4 4 kA kB kC) kB from by unfold bN5 bK0; rw [fk0]]; exact u
          show Go p e below s n0 _ _ _ (T270.setTop (mkF m 205 #[.val (.int v1), .val (.int v2), .val (.int v3), .val (.int k1), .val (.int k2), .val (.int k3), .val (.ref b219), .val (.int kA.toInt32), .val (.int kB.toInt32), .val (.int v2), .val (.int kB.toInt32), .val (.int kB.toInt32), .val (.int (1 : Int32)), .val (.int v2), .val (.int kA.toInt32), .val (.int kC.toInt32), .unset, .unset, .unset, .unset, .unset] [(.int v3)]))
          refine Go.st (fun _ => XS.istore X270.here C.hx rfl (hb C.hby at_205) rfl (l' := #[.val (.int v1), .val (.int v2), .val (.int v3), .val (.int k1), .val (.int k2), .val (.int k3), .val (.ref b219), .val (.int kA.toInt32), .val (.int kB.toInt32), .val (.int v2), .val (.int kB.toInt32), .val (.int kB.toInt32), .val (.int (1 : Int32)), .val (.int v2), .val (.int kA.toInt32), .val (.int kC.toInt32), .val (.int v3), .unset, .unset, .unset, .unset]) rfl) ?_
          show Go p e below s n0 _ _ _ (T270.setTop (mkF m 207 #[.val (.int v1), .val (.int v2), .val (.int v3), .val (.int k1), .val (.int k2), .val (.int k3), .val (.ref b219), .val (.int kA.toInt32), .val (.int kB.toInt32), .val (.int v2), .val (.int kB.toInt32), .val (.int kB.toInt32), .val (.int (1 : Int32)), .val (.int v2), .val (.int kA.toInt32), .val (.int kC.toInt32), .val (.int v3), .unset, .unset, .unset, .unset] []))
          refine Go.st (fun _ => XS.aload X270.here C.hx rfl (hb C.hby at_207) rfl rfl) ?_
          show Go p e below s n0 _ _ _ (T270.setTop (mkF m 209 #[.val (.int v1), .val (.int v2), .val (.int v3), .val (.int k1), .val (.int k2), .val (.int k3), .val (.ref b219), .val (.int kA.toInt32), .val (.int kB.toInt32), .val (.int v2), .val (.int kB.toInt32), .val (.int kB.toInt32), .val (.int (1 : Int32)), .val (.int v2), .val (.int kA.toInt32), .val (.int kC.toInt32), .val (.int v3), .unset, .unset, .unset, .unset] [(.ref b219)]))
          refine Go.callV C X270 (W := 0) (argsL := []) (rest := []) (a := b219) (BB270).1 (wd 39 rfl) (wd 40 rfl) (wd 42 rfl) (wd 41 rfl) (wd 2 rfl) (wd 43 rfl) (by decide) rfl (con_key l Z a0 hw n0 h270 X270.size b219 a1_220 a2_220 a3_220 (bN5 4 kA kB kC) (bO4 4 kA kB kC) [v1, v2, v3] _ _ BB270) (by decide) (by decide) rfl (lenOf pd_7 rfl) (Nat.le_of_ble_eq_true rfl) rfl at_209 (by decide) (by decide) (fun T271 h271 v271 X271 hQ271 => ?_)
          obtain ⟨rfl, hh271⟩ := hQ271
          rw [hh271] at X271
          show Go p e below s n0 _ _ _ (T271.setTop (mkF m 212 #[.val (.int v1), .val (.int v2), .val (.int v3), .val (.int k1), .val (.int k2), .val (.int k3), .val (.ref b219), .val (.int kA.toInt32), .val (.int kB.toInt32), .val (.int v2), .val (.int kB.toInt32), .val (.int kB.toInt32), .val (.int (1 : Int32)), .val (.int v2), .val (.int kA.toInt32), .val (.int kC.toInt32), .val (.int v3), .unset, .unset, .unset, .unset] [(.int kC.toInt32)]))
          refine Go.st (fun _ => XS.istore X271.here C.hx rfl (hb C.hby at_212) rfl (l' := #[.val (.int v1), .val (.int v2), .val (.int v3), .val (.int k1), .val (.int k2), .val (.int k3), .val (.ref b219), .val (.int kA.toInt32), .val (.int kB.toInt32), .val (.int v2), .val (.int kB.toInt32), .val (.int kB.toInt32), .val (.int (1 : Int32)), .val (.int v2), .val (.int kA.toInt32), .val (.int kC.toInt32), .val (.int v3), .val (.int kC.toInt32), .unset, .unset, .unset]) rfl) ?_
          show Go p e below s n0 _ _ _ (T271.setTop (mkF m 214 #[.val (.int v1), .val (.int v2), .val (.int v3), .val (.int k1), .val (.int k2), .val (.int k3), .val (.ref b219), .val (.int kA.toInt32), .val (.int kB.toInt32), .val (.int v2), .val (.int kB.toInt32), .val (.int kB.toInt32), .val (.int (1 : Int32)), .val (.int v2), .val (.int kA.toInt32), .val (.int kC.toInt32), .val (.int v3), .val (.int kC.toInt32), .unset, .unset, .unset] []))
          refine Go.st (fun _ => XS.aload X271.here C.hx rfl (hb C.hby at_214) rfl rfl) ?_
          show Go p e below s n0 _ _ _ (T271.setTop (mkF m 216 #[.val (.int v1), .val (.int v2), .val (.int v3), .val (.int k1), .val (.int k2), .val (.int k3), .val (.ref b219), .val (.int kA.toInt32), .val (.int kB.toInt32), .val (.int v2), .val (.int kB.toInt32), .val (.int kB.toInt32), .val (.int (1 : Int32)), .val (.int v2), .val (.int kA.toInt32), .val (.int kC.toInt32), .val (.int v3), .val (.int kC.toInt32), .unset, .unset, .unset] [(.ref b219)]))
          refine Go.callV C X271 (W := 0) (argsL := []) (rest := []) (a := b219) (BB270).1 (wd 34 rfl) (wd 35 rfl) (wd 37 rfl) (wd 36 rfl) (wd 2 rfl) (wd 38 rfl) (by decide) rfl (con_take l Z a0 hw n0 h270 X271.size b219 a1_220 a2_220 a3_220 (bN5 4 kA kB kC) (bO4 4 kA kB kC) [v1, v2, v3] ((3 : Nat).toInt32) ((kC : Nat).toInt32) kC DD220 rfl lO4 (by rw [fb5]; decide) fv5 rfl (by rw [fb5]; omega) BB270) (by decide) (by decide) rfl (lenOf pd_6 rfl) (Nat.le_of_ble_eq_true rfl) rfl at_216 (by decide) (by decide) (fun T272 h272 v272 X272 hQ272 => ?_)
          obtain ⟨rfl, BA272⟩ := hQ272
          rw [tkV_hit (e := 0) fb5 fk2 (by omega) fe2]
          have BB272 : BQ Z h272 b219 a1_220 a2_220 a3_220 (bN6 4 kA kB kC) (bO4 4 kA kB kC) [v1, v2, v3] (3 : Nat).toInt32 (kA : Nat).toInt32 := by have u := BA272; rw [fk2] at u; rw [show bN6 4 kA kB kC = tkN (bN5 4 kA kB kC) (bO4 4 kA kB kC) kC from by unfold bN6 bK1 bK0; rw [fk0, fk1]]; exact u
          show Go p e below s n0 _ _ _ (T272.setTop (mkF m 219 #[.val (.int v1), .val (.int v2), .val (.int v3), .val (.int k1), .val (.int k2), .val (.int k3), .val (.ref b219), .val (.int kA.toInt32), .val (.int kB.toInt32), .val (.int v2), .val (.int kB.toInt32), .val (.int kB.toInt32), .val (.int (1 : Int32)), .val (.int v2), .val (.int kA.toInt32), .val (.int kC.toInt32), .val (.int v3), .val (.int kC.toInt32), .unset, .unset, .unset] [(.int v1)]))
          refine Go.st (fun _ => XS.istore X272.here C.hx rfl (hb C.hby at_219) rfl (l' := #[.val (.int v1), .val (.int v2), .val (.int v3), .val (.int k1), .val (.int k2), .val (.int k3), .val (.ref b219), .val (.int kA.toInt32), .val (.int kB.toInt32), .val (.int v2), .val (.int kB.toInt32), .val (.int kB.toInt32), .val (.int (1 : Int32)), .val (.int v2), .val (.int kA.toInt32), .val (.int kC.toInt32), .val (.int v3), .val (.int kC.toInt32), .val (.int v1), .unset, .unset]) rfl) ?_
          show Go p e below s n0 _ _ _ (T272.setTop (mkF m 221 #[.val (.int v1), .val (.int v2), .val (.int v3), .val (.int k1), .val (.int k2), .val (.int k3), .val (.ref b219), .val (.int kA.toInt32), .val (.int kB.toInt32), .val (.int v2), .val (.int kB.toInt32), .val (.int kB.toInt32), .val (.int (1 : Int32)), .val (.int v2), .val (.int kA.toInt32), .val (.int kC.toInt32), .val (.int v3), .val (.int kC.toInt32), .val (.int v1), .unset, .unset] []))
          refine Go.st (fun _ => XS.aload X272.here C.hx rfl (hb C.hby at_221) rfl rfl) ?_
          show Go p e below s n0 _ _ _ (T272.setTop (mkF m 223 #[.val (.int v1), .val (.int v2), .val (.int v3), .val (.int k1), .val (.int k2), .val (.int k3), .val (.ref b219), .val (.int kA.toInt32), .val (.int kB.toInt32), .val (.int v2), .val (.int kB.toInt32), .val (.int kB.toInt32), .val (.int (1 : Int32)), .val (.int v2), .val (.int kA.toInt32), .val (.int kC.toInt32), .val (.int v3), .val (.int kC.toInt32), .val (.int v1), .unset, .unset] [(.ref b219)]))
          refine Go.callV C X272 (W := 0) (argsL := []) (rest := []) (a := b219) (BB272).1 (wd 39 rfl) (wd 40 rfl) (wd 42 rfl) (wd 41 rfl) (wd 2 rfl) (wd 43 rfl) (by decide) rfl (con_key l Z a0 hw n0 h272 X272.size b219 a1_220 a2_220 a3_220 (bN6 4 kA kB kC) (bO4 4 kA kB kC) [v1, v2, v3] _ _ BB272) (by decide) (by decide) rfl (lenOf pd_7 rfl) (Nat.le_of_ble_eq_true rfl) rfl at_223 (by decide) (by decide) (fun T273 h273 v273 X273 hQ273 => ?_)
          obtain ⟨rfl, hh273⟩ := hQ273
          rw [hh273] at X273
          show Go p e below s n0 _ _ _ (T273.setTop (mkF m 226 #[.val (.int v1), .val (.int v2), .val (.int v3), .val (.int k1), .val (.int k2), .val (.int k3), .val (.ref b219), .val (.int kA.toInt32), .val (.int kB.toInt32), .val (.int v2), .val (.int kB.toInt32), .val (.int kB.toInt32), .val (.int (1 : Int32)), .val (.int v2), .val (.int kA.toInt32), .val (.int kC.toInt32), .val (.int v3), .val (.int kC.toInt32), .val (.int v1), .unset, .unset] [(.int kA.toInt32)]))
          refine Go.st (fun _ => XS.istore X273.here C.hx rfl (hb C.hby at_226) rfl (l' := #[.val (.int v1), .val (.int v2), .val (.int v3), .val (.int k1), .val (.int k2), .val (.int k3), .val (.ref b219), .val (.int kA.toInt32), .val (.int kB.toInt32), .val (.int v2), .val (.int kB.toInt32), .val (.int kB.toInt32), .val (.int (1 : Int32)), .val (.int v2), .val (.int kA.toInt32), .val (.int kC.toInt32), .val (.int v3), .val (.int kC.toInt32), .val (.int v1), .val (.int kA.toInt32), .unset]) rfl) ?_
          show Go p e below s n0 _ _ _ (T273.setTop (mkF m 228 #[.val (.int v1), .val (.int v2), .val (.int v3), .val (.int k1), .val (.int k2), .val (.int k3), .val (.ref b219), .val (.int kA.toInt32), .val (.int kB.toInt32), .val (.int v2), .val (.int kB.toInt32), .val (.int kB.toInt32), .val (.int (1 : Int32)), .val (.int v2), .val (.int kA.toInt32), .val (.int kC.toInt32), .val (.int v3), .val (.int kC.toInt32), .val (.int v1), .val (.int kA.toInt32), .unset] []))
          refine Go.st (fun _ => XS.aload X273.here C.hx rfl (hb C.hby at_228) rfl rfl) ?_
          show Go p e below s n0 _ _ _ (T273.setTop (mkF m 230 #[.val (.int v1), .val (.int v2), .val (.int v3), .val (.int k1), .val (.int k2), .val (.int k3), .val (.ref b219), .val (.int kA.toInt32), .val (.int kB.toInt32), .val (.int v2), .val (.int kB.toInt32), .val (.int kB.toInt32), .val (.int (1 : Int32)), .val (.int v2), .val (.int kA.toInt32), .val (.int kC.toInt32), .val (.int v3), .val (.int kC.toInt32), .val (.int v1), .val (.int kA.toInt32), .unset] [(.ref b219)]))
          refine Go.callV C X273 (W := 0) (argsL := []) (rest := []) (a := b219) (BB272).1 (wd 34 rfl) (wd 35 rfl) (wd 37 rfl) (wd 36 rfl) (wd 2 rfl) (wd 38 rfl) (by decide) rfl (con_take l Z a0 hw n0 h272 X273.size b219 a1_220 a2_220 a3_220 (bN6 4 kA kB kC) (bO4 4 kA kB kC) [v1, v2, v3] ((3 : Nat).toInt32) ((kA : Nat).toInt32) kA DD220 rfl lO4 (by rw [fb6]; decide) fv6 rfl (by rw [fb6]; omega) BB272) (by decide) (by decide) rfl (lenOf pd_6 rfl) (Nat.le_of_ble_eq_true rfl) rfl at_230 (by decide) (by decide) (fun T274 h274 v274 X274 hQ274 => ?_)
          obtain ⟨rfl, BA274⟩ := hQ274
          rw [tkV_end fb6 fk3]
          have BB274 : BQ Z h274 b219 a1_220 a2_220 a3_220 (tkN (bN6 4 kA kB kC) (bO4 4 kA kB kC) kA) (bO4 4 kA kB kC) [v1, v2, v3] (3 : Nat).toInt32 (4 : Nat).toInt32 := by have u := BA274; rw [fk3] at u; exact u
          show Go p e below s n0 _ _ _ (T274.setTop (mkF m 233 #[.val (.int v1), .val (.int v2), .val (.int v3), .val (.int k1), .val (.int k2), .val (.int k3), .val (.ref b219), .val (.int kA.toInt32), .val (.int kB.toInt32), .val (.int v2), .val (.int kB.toInt32), .val (.int kB.toInt32), .val (.int (1 : Int32)), .val (.int v2), .val (.int kA.toInt32), .val (.int kC.toInt32), .val (.int v3), .val (.int kC.toInt32), .val (.int v1), .val (.int kA.toInt32), .unset] [(.int (-1 : Int32))]))
          refine Go.st (fun _ => XS.istore X274.here C.hx rfl (hb C.hby at_233) rfl (l' := #[.val (.int v1), .val (.int v2), .val (.int v3), .val (.int k1), .val (.int k2), .val (.int k3), .val (.ref b219), .val (.int kA.toInt32), .val (.int kB.toInt32), .val (.int v2), .val (.int kB.toInt32), .val (.int kB.toInt32), .val (.int (1 : Int32)), .val (.int v2), .val (.int kA.toInt32), .val (.int kC.toInt32), .val (.int v3), .val (.int kC.toInt32), .val (.int v1), .val (.int kA.toInt32), .val (.int (-1 : Int32))]) rfl) ?_
          show Go p e below s n0 _ _ _ (T274.setTop (mkF m 235 #[.val (.int v1), .val (.int v2), .val (.int v3), .val (.int k1), .val (.int k2), .val (.int k3), .val (.ref b219), .val (.int kA.toInt32), .val (.int kB.toInt32), .val (.int v2), .val (.int kB.toInt32), .val (.int kB.toInt32), .val (.int (1 : Int32)), .val (.int v2), .val (.int kA.toInt32), .val (.int kC.toInt32), .val (.int v3), .val (.int kC.toInt32), .val (.int v1), .val (.int kA.toInt32), .val (.int (-1 : Int32))] []))
          refine Go.st (fun _ => XS.iload X274.here C.hx rfl (hb C.hby at_235) rfl) ?_
          show Go p e below s n0 _ _ _ (T274.setTop (mkF m 237 #[.val (.int v1), .val (.int v2), .val (.int v3), .val (.int k1), .val (.int k2), .val (.int k3), .val (.ref b219), .val (.int kA.toInt32), .val (.int kB.toInt32), .val (.int v2), .val (.int kB.toInt32), .val (.int kB.toInt32), .val (.int (1 : Int32)), .val (.int v2), .val (.int kA.toInt32), .val (.int kC.toInt32), .val (.int v3), .val (.int kC.toInt32), .val (.int v1), .val (.int kA.toInt32), .val (.int (-1 : Int32))] [(.int (1 : Int32))]))
          refine Go.if_eq C X274 (pc' := 271) at_237 (by decide) (by decide) (fun hc => absurd hc (by decide)) (fun _ => ?_)
          show Go p e below s n0 _ _ _ (T274.setTop (mkF m 240 #[.val (.int v1), .val (.int v2), .val (.int v3), .val (.int k1), .val (.int k2), .val (.int k3), .val (.ref b219), .val (.int kA.toInt32), .val (.int kB.toInt32), .val (.int v2), .val (.int kB.toInt32), .val (.int kB.toInt32), .val (.int (1 : Int32)), .val (.int v2), .val (.int kA.toInt32), .val (.int kC.toInt32), .val (.int v3), .val (.int kC.toInt32), .val (.int v1), .val (.int kA.toInt32), .val (.int (-1 : Int32))] []))
          refine Go.st (fun _ => XS.iload X274.here C.hx rfl (hb C.hby at_240) rfl) ?_
          show Go p e below s n0 _ _ _ (T274.setTop (mkF m 242 #[.val (.int v1), .val (.int v2), .val (.int v3), .val (.int k1), .val (.int k2), .val (.int k3), .val (.ref b219), .val (.int kA.toInt32), .val (.int kB.toInt32), .val (.int v2), .val (.int kB.toInt32), .val (.int kB.toInt32), .val (.int (1 : Int32)), .val (.int v2), .val (.int kA.toInt32), .val (.int kC.toInt32), .val (.int v3), .val (.int kC.toInt32), .val (.int v1), .val (.int kA.toInt32), .val (.int (-1 : Int32))] [(.int v3)]))
          refine Go.st (fun _ => XS.iload X274.here C.hx rfl (hb C.hby at_242) rfl) ?_
          show Go p e below s n0 _ _ _ (T274.setTop (mkF m 244 #[.val (.int v1), .val (.int v2), .val (.int v3), .val (.int k1), .val (.int k2), .val (.int k3), .val (.ref b219), .val (.int kA.toInt32), .val (.int kB.toInt32), .val (.int v2), .val (.int kB.toInt32), .val (.int kB.toInt32), .val (.int (1 : Int32)), .val (.int v2), .val (.int kA.toInt32), .val (.int kC.toInt32), .val (.int v3), .val (.int kC.toInt32), .val (.int v1), .val (.int kA.toInt32), .val (.int (-1 : Int32))] [(.int kC.toInt32), (.int v3)]))
          refine Go.st (fun _ => XS.iload X274.here C.hx rfl (hb C.hby at_244) rfl) ?_
          show Go p e below s n0 _ _ _ (T274.setTop (mkF m 246 #[.val (.int v1), .val (.int v2), .val (.int v3), .val (.int k1), .val (.int k2), .val (.int k3), .val (.ref b219), .val (.int kA.toInt32), .val (.int kB.toInt32), .val (.int v2), .val (.int kB.toInt32), .val (.int kB.toInt32), .val (.int (1 : Int32)), .val (.int v2), .val (.int kA.toInt32), .val (.int kC.toInt32), .val (.int v3), .val (.int kC.toInt32), .val (.int v1), .val (.int kA.toInt32), .val (.int (-1 : Int32))] [(.int v1), (.int kC.toInt32), (.int v3)]))
          refine Go.st (fun _ => XS.iload X274.here C.hx rfl (hb C.hby at_246) rfl) ?_
          show Go p e below s n0 _ _ _ (T274.setTop (mkF m 248 #[.val (.int v1), .val (.int v2), .val (.int v3), .val (.int k1), .val (.int k2), .val (.int k3), .val (.ref b219), .val (.int kA.toInt32), .val (.int kB.toInt32), .val (.int v2), .val (.int kB.toInt32), .val (.int kB.toInt32), .val (.int (1 : Int32)), .val (.int v2), .val (.int kA.toInt32), .val (.int kC.toInt32), .val (.int v3), .val (.int kC.toInt32), .val (.int v1), .val (.int kA.toInt32), .val (.int (-1 : Int32))] [(.int kA.toInt32), (.int v1), (.int kC.toInt32), (.int v3)]))
          refine Go.st (fun _ => XS.iload X274.here C.hx rfl (hb C.hby at_248) rfl) ?_
          show Go p e below s n0 _ _ _ (T274.setTop (mkF m 250 #[.val (.int v1), .val (.int v2), .val (.int v3), .val (.int k1), .val (.int k2), .val (.int k3), .val (.ref b219), .val (.int kA.toInt32), .val (.int kB.toInt32), .val (.int v2), .val (.int kB.toInt32), .val (.int kB.toInt32), .val (.int (1 : Int32)), .val (.int v2), .val (.int kA.toInt32), .val (.int kC.toInt32), .val (.int v3), .val (.int kC.toInt32), .val (.int v1), .val (.int kA.toInt32), .val (.int (-1 : Int32))] [(.int v2), (.int kA.toInt32), (.int v1), (.int kC.toInt32), (.int v3)]))
          refine Go.st (fun _ => XS.iload X274.here C.hx rfl (hb C.hby at_250) rfl) ?_
          show Go p e below s n0 _ _ _ (T274.setTop (mkF m 252 #[.val (.int v1), .val (.int v2), .val (.int v3), .val (.int k1), .val (.int k2), .val (.int k3), .val (.ref b219), .val (.int kA.toInt32), .val (.int kB.toInt32), .val (.int v2), .val (.int kB.toInt32), .val (.int kB.toInt32), .val (.int (1 : Int32)), .val (.int v2), .val (.int kA.toInt32), .val (.int kC.toInt32), .val (.int v3), .val (.int kC.toInt32), .val (.int v1), .val (.int kA.toInt32), .val (.int (-1 : Int32))] [(.int kA.toInt32), (.int v2), (.int kA.toInt32), (.int v1), (.int kC.toInt32), (.int v3)]))
          refine Go.st (fun _ => XS.iloadN X274.here C.hx rfl (hb C.hby at_252) rfl) ?_
          show Go p e below s n0 _ _ _ (T274.setTop (mkF m 253 #[.val (.int v1), .val (.int v2), .val (.int v3), .val (.int k1), .val (.int k2), .val (.int k3), .val (.ref b219), .val (.int kA.toInt32), .val (.int kB.toInt32), .val (.int v2), .val (.int kB.toInt32), .val (.int kB.toInt32), .val (.int (1 : Int32)), .val (.int v2), .val (.int kA.toInt32), .val (.int kC.toInt32), .val (.int v3), .val (.int kC.toInt32), .val (.int v1), .val (.int kA.toInt32), .val (.int (-1 : Int32))] [(.int v3), (.int kA.toInt32), (.int v2), (.int kA.toInt32), (.int v1), (.int kC.toInt32), (.int v3)]))
          refine Go.st (fun _ => XS.iload X274.here C.hx rfl (hb C.hby at_253) rfl) ?_
          show Go p e below s n0 _ _ _ (T274.setTop (mkF m 255 #[.val (.int v1), .val (.int v2), .val (.int v3), .val (.int k1), .val (.int k2), .val (.int k3), .val (.ref b219), .val (.int kA.toInt32), .val (.int kB.toInt32), .val (.int v2), .val (.int kB.toInt32), .val (.int kB.toInt32), .val (.int (1 : Int32)), .val (.int v2), .val (.int kA.toInt32), .val (.int kC.toInt32), .val (.int v3), .val (.int kC.toInt32), .val (.int v1), .val (.int kA.toInt32), .val (.int (-1 : Int32))] [(.int kC.toInt32), (.int v3), (.int kA.toInt32), (.int v2), (.int kA.toInt32), (.int v1), (.int kC.toInt32), (.int v3)]))
          refine Go.callS C X274 (W := 0) (argsL := [(.int v3), (.int kC.toInt32), (.int v1), (.int kA.toInt32), (.int v2), (.int kA.toInt32), (.int v3), (.int kC.toInt32)]) (rest := []) (wd 48 rfl) (wd 49 rfl) (wd 50 rfl) (wd 51 rfl) (by decide) (con_pair l Z a0 hw n0 h274 X274.size v3 kC.toInt32 v1 kA.toInt32 v2 kA.toInt32 v3 kC.toInt32) (by decide) (by decide) rfl (lenOf pd_9 rfl) (Nat.le_of_ble_eq_true rfl) rfl at_255 (by decide) (by decide) (fun T276 h276 v276 X276 hQ276 => ?_)
          obtain ⟨rfl, hh276⟩ := hQ276
          rw [hh276] at X276
          rw [show pairF v3 kC.toInt32 v1 kA.toInt32 v2 kA.toInt32 v3 kC.toInt32 = 1 from by exact pair_N hA4 hC4 hRC hc124_255]
          show Go p e below s n0 _ _ _ (T276.setTop (mkF m 258 #[.val (.int v1), .val (.int v2), .val (.int v3), .val (.int k1), .val (.int k2), .val (.int k3), .val (.ref b219), .val (.int kA.toInt32), .val (.int kB.toInt32), .val (.int v2), .val (.int kB.toInt32), .val (.int kB.toInt32), .val (.int (1 : Int32)), .val (.int v2), .val (.int kA.toInt32), .val (.int kC.toInt32), .val (.int v3), .val (.int kC.toInt32), .val (.int v1), .val (.int kA.toInt32), .val (.int (-1 : Int32))] [(.int (1 : Int32))]))
          refine Go.if_eq C X276 (pc' := 271) at_258 (by decide) (by decide) (fun hc => absurd hc (by decide)) (fun _ => ?_)
          show Go p e below s n0 _ _ _ (T276.setTop (mkF m 261 #[.val (.int v1), .val (.int v2), .val (.int v3), .val (.int k1), .val (.int k2), .val (.int k3), .val (.ref b219), .val (.int kA.toInt32), .val (.int kB.toInt32), .val (.int v2), .val (.int kB.toInt32), .val (.int kB.toInt32), .val (.int (1 : Int32)), .val (.int v2), .val (.int kA.toInt32), .val (.int kC.toInt32), .val (.int v3), .val (.int kC.toInt32), .val (.int v1), .val (.int kA.toInt32), .val (.int (-1 : Int32))] []))
          refine Go.st (fun _ => XS.iload X276.here C.hx rfl (hb C.hby at_261) rfl) ?_
          show Go p e below s n0 _ _ _ (T276.setTop (mkF m 263 #[.val (.int v1), .val (.int v2), .val (.int v3), .val (.int k1), .val (.int k2), .val (.int k3), .val (.ref b219), .val (.int kA.toInt32), .val (.int kB.toInt32), .val (.int v2), .val (.int kB.toInt32), .val (.int kB.toInt32), .val (.int (1 : Int32)), .val (.int v2), .val (.int kA.toInt32), .val (.int kC.toInt32), .val (.int v3), .val (.int kC.toInt32), .val (.int v1), .val (.int kA.toInt32), .val (.int (-1 : Int32))] [(.int (-1 : Int32))]))
          refine Go.st (fun _ => XS.iconst X276.here C.hx rfl (hb C.hby at_263)) ?_
          show Go p e below s n0 _ _ _ (T276.setTop (mkF m 264 #[.val (.int v1), .val (.int v2), .val (.int v3), .val (.int k1), .val (.int k2), .val (.int k3), .val (.ref b219), .val (.int kA.toInt32), .val (.int kB.toInt32), .val (.int v2), .val (.int kB.toInt32), .val (.int kB.toInt32), .val (.int (1 : Int32)), .val (.int v2), .val (.int kA.toInt32), .val (.int kC.toInt32), .val (.int v3), .val (.int kC.toInt32), .val (.int v1), .val (.int kA.toInt32), .val (.int (-1 : Int32))] [(.int (-1 : Int32)), (.int (-1 : Int32))]))
          refine Go.icmp_ne C X276 (pc' := 271) at_264 (by decide) (by decide) (fun hc => absurd hc (by decide)) (fun _ => ?_)
          show Go p e below s n0 _ _ _ (T276.setTop (mkF m 267 #[.val (.int v1), .val (.int v2), .val (.int v3), .val (.int k1), .val (.int k2), .val (.int k3), .val (.ref b219), .val (.int kA.toInt32), .val (.int kB.toInt32), .val (.int v2), .val (.int kB.toInt32), .val (.int kB.toInt32), .val (.int (1 : Int32)), .val (.int v2), .val (.int kA.toInt32), .val (.int kC.toInt32), .val (.int v3), .val (.int kC.toInt32), .val (.int v1), .val (.int kA.toInt32), .val (.int (-1 : Int32))] []))
          refine Go.st (fun _ => XS.iconst X276.here C.hx rfl (hb C.hby at_267)) ?_
          show Go p e below s n0 _ _ _ (T276.setTop (mkF m 268 #[.val (.int v1), .val (.int v2), .val (.int v3), .val (.int k1), .val (.int k2), .val (.int k3), .val (.ref b219), .val (.int kA.toInt32), .val (.int kB.toInt32), .val (.int v2), .val (.int kB.toInt32), .val (.int kB.toInt32), .val (.int (1 : Int32)), .val (.int v2), .val (.int kA.toInt32), .val (.int kC.toInt32), .val (.int v3), .val (.int kC.toInt32), .val (.int v1), .val (.int kA.toInt32), .val (.int (-1 : Int32))] [(.int (1 : Int32))]))
          refine Go.st (fun _ => XS.goto X276.here C.hx rfl (pc0 := 268) (pc' := 272) rfl (hb C.hby at_268) (by decide) (by decide)) ?_
          show Go p e below s n0 _ _ _ (T276.setTop (mkF m 272 #[.val (.int v1), .val (.int v2), .val (.int v3), .val (.int k1), .val (.int k2), .val (.int k3), .val (.ref b219), .val (.int kA.toInt32), .val (.int kB.toInt32), .val (.int v2), .val (.int kB.toInt32), .val (.int kB.toInt32), .val (.int (1 : Int32)), .val (.int v2), .val (.int kA.toInt32), .val (.int kC.toInt32), .val (.int v3), .val (.int kC.toInt32), .val (.int v1), .val (.int kA.toInt32), .val (.int (-1 : Int32))] [(.int (1 : Int32))]))
          exact Go.retZ C X276 (by decide) at_272 rfl (by decide) (by decide)
      · show Go p e below s n0 _ _ _ (T252.setTop (mkF m 127 #[.val (.int v1), .val (.int v2), .val (.int v3), .val (.int k1), .val (.int k2), .val (.int k3), .val (.ref b219), .val (.int kA.toInt32), .val (.int kB.toInt32), .val (.int v2), .val (.int kB.toInt32), .val (.int kB.toInt32), .unset, .unset, .unset, .unset, .unset, .unset, .unset, .unset, .unset] []))
        refine Go.st (fun _ => XS.iload X252.here C.hx rfl (hb C.hby at_127) rfl) ?_
        show Go p e below s n0 _ _ _ (T252.setTop (mkF m 129 #[.val (.int v1), .val (.int v2), .val (.int v3), .val (.int k1), .val (.int k2), .val (.int k3), .val (.ref b219), .val (.int kA.toInt32), .val (.int kB.toInt32), .val (.int v2), .val (.int kB.toInt32), .val (.int kB.toInt32), .unset, .unset, .unset, .unset, .unset, .unset, .unset, .unset, .unset] [(.int v2)]))
        refine Go.st (fun _ => XS.iloadN X252.here C.hx rfl (hb C.hby at_129) rfl) ?_
        show Go p e below s n0 _ _ _ (T252.setTop (mkF m 130 #[.val (.int v1), .val (.int v2), .val (.int v3), .val (.int k1), .val (.int k2), .val (.int k3), .val (.ref b219), .val (.int kA.toInt32), .val (.int kB.toInt32), .val (.int v2), .val (.int kB.toInt32), .val (.int kB.toInt32), .unset, .unset, .unset, .unset, .unset, .unset, .unset, .unset, .unset] [(.int v2), (.int v2)]))
        refine Go.icmp_ne C X252 (pc' := 137) at_130 (by decide) (by decide) (fun hc => by first | exact absurd hc rfl | exact absurd rfl hc) (fun _ => ?_)
        show Go p e below s n0 _ _ _ (T252.setTop (mkF m 133 #[.val (.int v1), .val (.int v2), .val (.int v3), .val (.int k1), .val (.int k2), .val (.int k3), .val (.ref b219), .val (.int kA.toInt32), .val (.int kB.toInt32), .val (.int v2), .val (.int kB.toInt32), .val (.int kB.toInt32), .unset, .unset, .unset, .unset, .unset, .unset, .unset, .unset, .unset] []))
        refine Go.st (fun _ => XS.iconst X252.here C.hx rfl (hb C.hby at_133)) ?_
        show Go p e below s n0 _ _ _ (T252.setTop (mkF m 134 #[.val (.int v1), .val (.int v2), .val (.int v3), .val (.int k1), .val (.int k2), .val (.int k3), .val (.ref b219), .val (.int kA.toInt32), .val (.int kB.toInt32), .val (.int v2), .val (.int kB.toInt32), .val (.int kB.toInt32), .unset, .unset, .unset, .unset, .unset, .unset, .unset, .unset, .unset] [(.int (1 : Int32))]))
        refine Go.st (fun _ => XS.goto X252.here C.hx rfl (pc0 := 134) (pc' := 138) rfl (hb C.hby at_134) (by decide) (by decide)) ?_
        show Go p e below s n0 _ _ _ (T252.setTop (mkF m 138 #[.val (.int v1), .val (.int v2), .val (.int v3), .val (.int k1), .val (.int k2), .val (.int k3), .val (.ref b219), .val (.int kA.toInt32), .val (.int kB.toInt32), .val (.int v2), .val (.int kB.toInt32), .val (.int kB.toInt32), .unset, .unset, .unset, .unset, .unset, .unset, .unset, .unset, .unset] [(.int (1 : Int32))]))
        refine Go.st (fun _ => XS.istore X252.here C.hx rfl (hb C.hby at_138) rfl (l' := #[.val (.int v1), .val (.int v2), .val (.int v3), .val (.int k1), .val (.int k2), .val (.int k3), .val (.ref b219), .val (.int kA.toInt32), .val (.int kB.toInt32), .val (.int v2), .val (.int kB.toInt32), .val (.int kB.toInt32), .val (.int (1 : Int32)), .unset, .unset, .unset, .unset, .unset, .unset, .unset, .unset]) rfl) ?_
        show Go p e below s n0 _ _ _ (T252.setTop (mkF m 140 #[.val (.int v1), .val (.int v2), .val (.int v3), .val (.int k1), .val (.int k2), .val (.int k3), .val (.ref b219), .val (.int kA.toInt32), .val (.int kB.toInt32), .val (.int v2), .val (.int kB.toInt32), .val (.int kB.toInt32), .val (.int (1 : Int32)), .unset, .unset, .unset, .unset, .unset, .unset, .unset, .unset] []))
        refine Go.st (fun _ => XS.iload X252.here C.hx rfl (hb C.hby at_140) rfl) ?_
        show Go p e below s n0 _ _ _ (T252.setTop (mkF m 142 #[.val (.int v1), .val (.int v2), .val (.int v3), .val (.int k1), .val (.int k2), .val (.int k3), .val (.ref b219), .val (.int kA.toInt32), .val (.int kB.toInt32), .val (.int v2), .val (.int kB.toInt32), .val (.int kB.toInt32), .val (.int (1 : Int32)), .unset, .unset, .unset, .unset, .unset, .unset, .unset, .unset] [(.int v2)]))
        refine Go.st (fun _ => XS.iloadN X252.here C.hx rfl (hb C.hby at_142) rfl) ?_
        show Go p e below s n0 _ _ _ (T252.setTop (mkF m 143 #[.val (.int v1), .val (.int v2), .val (.int v3), .val (.int k1), .val (.int k2), .val (.int k3), .val (.ref b219), .val (.int kA.toInt32), .val (.int kB.toInt32), .val (.int v2), .val (.int kB.toInt32), .val (.int kB.toInt32), .val (.int (1 : Int32)), .unset, .unset, .unset, .unset, .unset, .unset, .unset, .unset] [(.int v1), (.int v2)]))
        refine Go.icmp_ne C X252 (pc' := 152) at_143 (by decide) (by decide) (fun _ => ?_) (fun hc => by first | exact absurd hc hc124_255 | exact absurd hc124_255 hc)
        show Go p e below s n0 _ _ _ (T252.setTop (mkF m 152 #[.val (.int v1), .val (.int v2), .val (.int v3), .val (.int k1), .val (.int k2), .val (.int k3), .val (.ref b219), .val (.int kA.toInt32), .val (.int kB.toInt32), .val (.int v2), .val (.int kB.toInt32), .val (.int kB.toInt32), .val (.int (1 : Int32)), .unset, .unset, .unset, .unset, .unset, .unset, .unset, .unset] []))
        refine Go.st (fun _ => XS.iloadN X252.here C.hx rfl (hb C.hby at_152) rfl) ?_
        show Go p e below s n0 _ _ _ (T252.setTop (mkF m 153 #[.val (.int v1), .val (.int v2), .val (.int v3), .val (.int k1), .val (.int k2), .val (.int k3), .val (.ref b219), .val (.int kA.toInt32), .val (.int kB.toInt32), .val (.int v2), .val (.int kB.toInt32), .val (.int kB.toInt32), .val (.int (1 : Int32)), .unset, .unset, .unset, .unset, .unset, .unset, .unset, .unset] [(.int v1)]))
        refine Go.st (fun _ => XS.istore X252.here C.hx rfl (hb C.hby at_153) rfl (l' := #[.val (.int v1), .val (.int v2), .val (.int v3), .val (.int k1), .val (.int k2), .val (.int k3), .val (.ref b219), .val (.int kA.toInt32), .val (.int kB.toInt32), .val (.int v2), .val (.int kB.toInt32), .val (.int kB.toInt32), .val (.int (1 : Int32)), .val (.int v1), .unset, .unset, .unset, .unset, .unset, .unset, .unset]) rfl) ?_
        show Go p e below s n0 _ _ _ (T252.setTop (mkF m 155 #[.val (.int v1), .val (.int v2), .val (.int v3), .val (.int k1), .val (.int k2), .val (.int k3), .val (.ref b219), .val (.int kA.toInt32), .val (.int kB.toInt32), .val (.int v2), .val (.int kB.toInt32), .val (.int kB.toInt32), .val (.int (1 : Int32)), .val (.int v1), .unset, .unset, .unset, .unset, .unset, .unset, .unset] []))
        refine Go.st (fun _ => XS.iload X252.here C.hx rfl (hb C.hby at_155) rfl) ?_
        show Go p e below s n0 _ _ _ (T252.setTop (mkF m 157 #[.val (.int v1), .val (.int v2), .val (.int v3), .val (.int k1), .val (.int k2), .val (.int k3), .val (.ref b219), .val (.int kA.toInt32), .val (.int kB.toInt32), .val (.int v2), .val (.int kB.toInt32), .val (.int kB.toInt32), .val (.int (1 : Int32)), .val (.int v1), .unset, .unset, .unset, .unset, .unset, .unset, .unset] [(.int kA.toInt32)]))
        refine Go.st (fun _ => XS.istore X252.here C.hx rfl (hb C.hby at_157) rfl (l' := #[.val (.int v1), .val (.int v2), .val (.int v3), .val (.int k1), .val (.int k2), .val (.int k3), .val (.ref b219), .val (.int kA.toInt32), .val (.int kB.toInt32), .val (.int v2), .val (.int kB.toInt32), .val (.int kB.toInt32), .val (.int (1 : Int32)), .val (.int v1), .val (.int kA.toInt32), .unset, .unset, .unset, .unset, .unset, .unset]) rfl) ?_
        show Go p e below s n0 _ _ _ (T252.setTop (mkF m 159 #[.val (.int v1), .val (.int v2), .val (.int v3), .val (.int k1), .val (.int k2), .val (.int k3), .val (.ref b219), .val (.int kA.toInt32), .val (.int kB.toInt32), .val (.int v2), .val (.int kB.toInt32), .val (.int kB.toInt32), .val (.int (1 : Int32)), .val (.int v1), .val (.int kA.toInt32), .unset, .unset, .unset, .unset, .unset, .unset] []))
        refine Go.st (fun _ => XS.iload X252.here C.hx rfl (hb C.hby at_159) rfl) ?_
        show Go p e below s n0 _ _ _ (T252.setTop (mkF m 161 #[.val (.int v1), .val (.int v2), .val (.int v3), .val (.int k1), .val (.int k2), .val (.int k3), .val (.ref b219), .val (.int kA.toInt32), .val (.int kB.toInt32), .val (.int v2), .val (.int kB.toInt32), .val (.int kB.toInt32), .val (.int (1 : Int32)), .val (.int v1), .val (.int kA.toInt32), .unset, .unset, .unset, .unset, .unset, .unset] [(.int (1 : Int32))]))
        refine Go.if_eq C X252 (pc' := 175) at_161 (by decide) (by decide) (fun hc => absurd hc (by decide)) (fun _ => ?_)
        show Go p e below s n0 _ _ _ (T252.setTop (mkF m 164 #[.val (.int v1), .val (.int v2), .val (.int v3), .val (.int k1), .val (.int k2), .val (.int k3), .val (.ref b219), .val (.int kA.toInt32), .val (.int kB.toInt32), .val (.int v2), .val (.int kB.toInt32), .val (.int kB.toInt32), .val (.int (1 : Int32)), .val (.int v1), .val (.int kA.toInt32), .unset, .unset, .unset, .unset, .unset, .unset] []))
        refine Go.st (fun _ => XS.iload X252.here C.hx rfl (hb C.hby at_164) rfl) ?_
        show Go p e below s n0 _ _ _ (T252.setTop (mkF m 166 #[.val (.int v1), .val (.int v2), .val (.int v3), .val (.int k1), .val (.int k2), .val (.int k3), .val (.ref b219), .val (.int kA.toInt32), .val (.int kB.toInt32), .val (.int v2), .val (.int kB.toInt32), .val (.int kB.toInt32), .val (.int (1 : Int32)), .val (.int v1), .val (.int kA.toInt32), .unset, .unset, .unset, .unset, .unset, .unset] [(.int kB.toInt32)]))
        refine Go.st (fun _ => XS.iload X252.here C.hx rfl (hb C.hby at_166) rfl) ?_
        show Go p e below s n0 _ _ _ (T252.setTop (mkF m 168 #[.val (.int v1), .val (.int v2), .val (.int v3), .val (.int k1), .val (.int k2), .val (.int k3), .val (.ref b219), .val (.int kA.toInt32), .val (.int kB.toInt32), .val (.int v2), .val (.int kB.toInt32), .val (.int kB.toInt32), .val (.int (1 : Int32)), .val (.int v1), .val (.int kA.toInt32), .unset, .unset, .unset, .unset, .unset, .unset] [(.int kB.toInt32), (.int kB.toInt32)]))
        refine Go.icmp_ne C X252 (pc' := 175) at_168 (by decide) (by decide) (fun hc => by first | exact absurd hc rfl | exact absurd rfl hc) (fun _ => ?_)
        show Go p e below s n0 _ _ _ (T252.setTop (mkF m 171 #[.val (.int v1), .val (.int v2), .val (.int v3), .val (.int k1), .val (.int k2), .val (.int k3), .val (.ref b219), .val (.int kA.toInt32), .val (.int kB.toInt32), .val (.int v2), .val (.int kB.toInt32), .val (.int kB.toInt32), .val (.int (1 : Int32)), .val (.int v1), .val (.int kA.toInt32), .unset, .unset, .unset, .unset, .unset, .unset] []))
        refine Go.st (fun _ => XS.iconst X252.here C.hx rfl (hb C.hby at_171)) ?_
        show Go p e below s n0 _ _ _ (T252.setTop (mkF m 172 #[.val (.int v1), .val (.int v2), .val (.int v3), .val (.int k1), .val (.int k2), .val (.int k3), .val (.ref b219), .val (.int kA.toInt32), .val (.int kB.toInt32), .val (.int v2), .val (.int kB.toInt32), .val (.int kB.toInt32), .val (.int (1 : Int32)), .val (.int v1), .val (.int kA.toInt32), .unset, .unset, .unset, .unset, .unset, .unset] [(.int (1 : Int32))]))
        refine Go.st (fun _ => XS.goto X252.here C.hx rfl (pc0 := 172) (pc' := 176) rfl (hb C.hby at_172) (by decide) (by decide)) ?_
        show Go p e below s n0 _ _ _ (T252.setTop (mkF m 176 #[.val (.int v1), .val (.int v2), .val (.int v3), .val (.int k1), .val (.int k2), .val (.int k3), .val (.ref b219), .val (.int kA.toInt32), .val (.int kB.toInt32), .val (.int v2), .val (.int kB.toInt32), .val (.int kB.toInt32), .val (.int (1 : Int32)), .val (.int v1), .val (.int kA.toInt32), .unset, .unset, .unset, .unset, .unset, .unset] [(.int (1 : Int32))]))
        refine Go.st (fun _ => XS.istore X252.here C.hx rfl (hb C.hby at_176) rfl (l' := #[.val (.int v1), .val (.int v2), .val (.int v3), .val (.int k1), .val (.int k2), .val (.int k3), .val (.ref b219), .val (.int kA.toInt32), .val (.int kB.toInt32), .val (.int v2), .val (.int kB.toInt32), .val (.int kB.toInt32), .val (.int (1 : Int32)), .val (.int v1), .val (.int kA.toInt32), .unset, .unset, .unset, .unset, .unset, .unset]) rfl) ?_
        show Go p e below s n0 _ _ _ (T252.setTop (mkF m 178 #[.val (.int v1), .val (.int v2), .val (.int v3), .val (.int k1), .val (.int k2), .val (.int k3), .val (.ref b219), .val (.int kA.toInt32), .val (.int kB.toInt32), .val (.int v2), .val (.int kB.toInt32), .val (.int kB.toInt32), .val (.int (1 : Int32)), .val (.int v1), .val (.int kA.toInt32), .unset, .unset, .unset, .unset, .unset, .unset] []))
        refine Go.st (fun _ => XS.iload X252.here C.hx rfl (hb C.hby at_178) rfl) ?_
        show Go p e below s n0 _ _ _ (T252.setTop (mkF m 180 #[.val (.int v1), .val (.int v2), .val (.int v3), .val (.int k1), .val (.int k2), .val (.int k3), .val (.ref b219), .val (.int kA.toInt32), .val (.int kB.toInt32), .val (.int v2), .val (.int kB.toInt32), .val (.int kB.toInt32), .val (.int (1 : Int32)), .val (.int v1), .val (.int kA.toInt32), .unset, .unset, .unset, .unset, .unset, .unset] [(.int kB.toInt32)]))
        refine Go.st (fun _ => XS.iload X252.here C.hx rfl (hb C.hby at_180) rfl) ?_
        show Go p e below s n0 _ _ _ (T252.setTop (mkF m 182 #[.val (.int v1), .val (.int v2), .val (.int v3), .val (.int k1), .val (.int k2), .val (.int k3), .val (.ref b219), .val (.int kA.toInt32), .val (.int kB.toInt32), .val (.int v2), .val (.int kB.toInt32), .val (.int kB.toInt32), .val (.int (1 : Int32)), .val (.int v1), .val (.int kA.toInt32), .unset, .unset, .unset, .unset, .unset, .unset] [(.int k3), (.int kB.toInt32)]))
        refine Go.st (fun _ => XS.iconst X252.here C.hx rfl (hb C.hby at_182)) ?_
        show Go p e below s n0 _ _ _ (T252.setTop (mkF m 183 #[.val (.int v1), .val (.int v2), .val (.int v3), .val (.int k1), .val (.int k2), .val (.int k3), .val (.ref b219), .val (.int kA.toInt32), .val (.int kB.toInt32), .val (.int v2), .val (.int kB.toInt32), .val (.int kB.toInt32), .val (.int (1 : Int32)), .val (.int v1), .val (.int kA.toInt32), .unset, .unset, .unset, .unset, .unset, .unset] [(.int (3 : Int32)), (.int k3), (.int kB.toInt32)]))
        refine Go.st (fun _ => XS.iand X252.here C.hx rfl (hb C.hby at_183) rfl) ?_
        show Go p e below s n0 _ _ _ (T252.setTop (mkF m 184 #[.val (.int v1), .val (.int v2), .val (.int v3), .val (.int k1), .val (.int k2), .val (.int k3), .val (.ref b219), .val (.int kA.toInt32), .val (.int kB.toInt32), .val (.int v2), .val (.int kB.toInt32), .val (.int kB.toInt32), .val (.int (1 : Int32)), .val (.int v1), .val (.int kA.toInt32), .unset, .unset, .unset, .unset, .unset, .unset] [(.int (k3 &&& (3 : Int32))), (.int kB.toInt32)]))
        refine Go.st (fun _ => XS.iconst X252.here C.hx rfl (hb C.hby at_184)) ?_
        show Go p e below s n0 _ _ _ (T252.setTop (mkF m 185 #[.val (.int v1), .val (.int v2), .val (.int v3), .val (.int k1), .val (.int k2), .val (.int k3), .val (.ref b219), .val (.int kA.toInt32), .val (.int kB.toInt32), .val (.int v2), .val (.int kB.toInt32), .val (.int kB.toInt32), .val (.int (1 : Int32)), .val (.int v1), .val (.int kA.toInt32), .unset, .unset, .unset, .unset, .unset, .unset] [(.int (4 : Int32)), (.int (k3 &&& (3 : Int32))), (.int kB.toInt32)]))
        refine Go.st (fun _ => XS.iload X252.here C.hx rfl (hb C.hby at_185) rfl) ?_
        show Go p e below s n0 _ _ _ (T252.setTop (mkF m 187 #[.val (.int v1), .val (.int v2), .val (.int v3), .val (.int k1), .val (.int k2), .val (.int k3), .val (.ref b219), .val (.int kA.toInt32), .val (.int kB.toInt32), .val (.int v2), .val (.int kB.toInt32), .val (.int kB.toInt32), .val (.int (1 : Int32)), .val (.int v1), .val (.int kA.toInt32), .unset, .unset, .unset, .unset, .unset, .unset] [(.int kB.toInt32), (.int (4 : Int32)), (.int (k3 &&& (3 : Int32))), (.int kB.toInt32)]))
        refine Go.st (fun _ => XS.isub X252.here C.hx rfl (hb C.hby at_187) rfl) ?_
        show Go p e below s n0 _ _ _ (T252.setTop (mkF m 188 #[.val (.int v1), .val (.int v2), .val (.int v3), .val (.int k1), .val (.int k2), .val (.int k3), .val (.ref b219), .val (.int kA.toInt32), .val (.int kB.toInt32), .val (.int v2), .val (.int kB.toInt32), .val (.int kB.toInt32), .val (.int (1 : Int32)), .val (.int v1), .val (.int kA.toInt32), .unset, .unset, .unset, .unset, .unset, .unset] [(.int ((4 : Int32) - kB.toInt32)), (.int (k3 &&& (3 : Int32))), (.int kB.toInt32)]))
        refine Go.irem C X252 (sub4 hB4) at_188 ?_
        show Go p e below s n0 _ _ _ (T252.setTop (mkF m 189 #[.val (.int v1), .val (.int v2), .val (.int v3), .val (.int k1), .val (.int k2), .val (.int k3), .val (.ref b219), .val (.int kA.toInt32), .val (.int kB.toInt32), .val (.int v2), .val (.int kB.toInt32), .val (.int kB.toInt32), .val (.int (1 : Int32)), .val (.int v1), .val (.int kA.toInt32), .unset, .unset, .unset, .unset, .unset, .unset] [(.int ((k3 &&& (3 : Int32)) % ((4 : Int32) - kB.toInt32))), (.int kB.toInt32)]))
        refine Go.st (fun _ => XS.iadd X252.here C.hx rfl (hb C.hby at_189) rfl) ?_
        show Go p e below s n0 _ _ _ (T252.setTop (mkF m 190 #[.val (.int v1), .val (.int v2), .val (.int v3), .val (.int k1), .val (.int k2), .val (.int k3), .val (.ref b219), .val (.int kA.toInt32), .val (.int kB.toInt32), .val (.int v2), .val (.int kB.toInt32), .val (.int kB.toInt32), .val (.int (1 : Int32)), .val (.int v1), .val (.int kA.toInt32), .unset, .unset, .unset, .unset, .unset, .unset] [(.int (kB.toInt32 + ((k3 &&& (3 : Int32)) % ((4 : Int32) - kB.toInt32))))]))
        generalize hg_kc : (kB.toInt32 + ((k3 &&& (3 : Int32)) % ((4 : Int32) - kB.toInt32))) = kc
        refine Go.st (fun _ => XS.istore X252.here C.hx rfl (hb C.hby at_190) rfl (l' := #[.val (.int v1), .val (.int v2), .val (.int v3), .val (.int k1), .val (.int k2), .val (.int k3), .val (.ref b219), .val (.int kA.toInt32), .val (.int kB.toInt32), .val (.int v2), .val (.int kB.toInt32), .val (.int kB.toInt32), .val (.int (1 : Int32)), .val (.int v1), .val (.int kA.toInt32), .val (.int kc), .unset, .unset, .unset, .unset, .unset]) rfl) ?_
        obtain ⟨kC, hmC, hC4, rfl⟩ := kcOk hB4 hg_kc
        have hB := allB ⟨kA, hA4⟩ ⟨kB, hB4⟩ ⟨kC, hC4⟩ (by show (if kA < kB then kA else kB) ≤ kC; rw [if_neg hAB]; exact hmC)
        simp only [chkB, Bool.and_eq_true, decide_eq_true_eq] at hB
        obtain ⟨⟨⟨⟨⟨⟨⟨⟨⟨⟨fv4, fv5⟩, fv6⟩, fb4⟩, fb5⟩, fb6⟩, fk1⟩, fe1⟩, fk2⟩, fe2⟩, fk3⟩ := hB
        replace fv4 := vB_ok fv4
        replace fv5 := vB_ok fv5
        replace fv6 := vB_ok fv6
        have lO4 : (bO4 4 kA kB kC).length = 3 := by unfold bO4; rw [List.length_set]; exact lO2
        have rk : bRk kA kB = kA := by unfold bRk; rw [if_neg hAB]
        have re : bRe kA kB = 0 := by unfold bRe; rw [if_neg hAB]
        rw [rk] at fk1 fe1 fk2 fe2
        rw [re] at fe1 fe2
        by_cases hRC : kA < kC
        · rw [if_pos hRC] at fk1 fe1 fk2 fe2
          rw [if_pos hRC] at fe1 fe2
          unfold bK2 bK1 bK0 at fk3
          unfold bK2 bK1 bK0 at fk2
          unfold bK1 bK0 at fk1
          rw [fk0] at fk1 fk2 fk3
          rw [fk1] at fk2 fk3
          rw [fk2] at fk3
          show Go p e below s n0 _ _ _ (T252.setTop (mkF m 192 #[.val (.int v1), .val (.int v2), .val (.int v3), .val (.int k1), .val (.int k2), .val (.int k3), .val (.ref b219), .val (.int kA.toInt32), .val (.int kB.toInt32), .val (.int v2), .val (.int kB.toInt32), .val (.int kB.toInt32), .val (.int (1 : Int32)), .val (.int v1), .val (.int kA.toInt32), .val (.int kC.toInt32), .unset, .unset, .unset, .unset, .unset] []))
          refine Go.st (fun _ => XS.aload X252.here C.hx rfl (hb C.hby at_192) rfl rfl) ?_
          show Go p e below s n0 _ _ _ (T252.setTop (mkF m 194 #[.val (.int v1), .val (.int v2), .val (.int v3), .val (.int k1), .val (.int k2), .val (.int k3), .val (.ref b219), .val (.int kA.toInt32), .val (.int kB.toInt32), .val (.int v2), .val (.int kB.toInt32), .val (.int kB.toInt32), .val (.int (1 : Int32)), .val (.int v1), .val (.int kA.toInt32), .val (.int kC.toInt32), .unset, .unset, .unset, .unset, .unset] [(.ref b219)]))
          refine Go.st (fun _ => XS.iloadN X252.here C.hx rfl (hb C.hby at_194) rfl) ?_
          show Go p e below s n0 _ _ _ (T252.setTop (mkF m 195 #[.val (.int v1), .val (.int v2), .val (.int v3), .val (.int k1), .val (.int k2), .val (.int k3), .val (.ref b219), .val (.int kA.toInt32), .val (.int kB.toInt32), .val (.int v2), .val (.int kB.toInt32), .val (.int kB.toInt32), .val (.int (1 : Int32)), .val (.int v1), .val (.int kA.toInt32), .val (.int kC.toInt32), .unset, .unset, .unset, .unset, .unset] [(.int v3), (.ref b219)]))
          refine Go.st (fun _ => XS.iload X252.here C.hx rfl (hb C.hby at_195) rfl) ?_
          show Go p e below s n0 _ _ _ (T252.setTop (mkF m 197 #[.val (.int v1), .val (.int v2), .val (.int v3), .val (.int k1), .val (.int k2), .val (.int k3), .val (.ref b219), .val (.int kA.toInt32), .val (.int kB.toInt32), .val (.int v2), .val (.int kB.toInt32), .val (.int kB.toInt32), .val (.int (1 : Int32)), .val (.int v1), .val (.int kA.toInt32), .val (.int kC.toInt32), .unset, .unset, .unset, .unset, .unset] [(.int kC.toInt32), (.int v3), (.ref b219)]))
          refine Go.callV C X252 (W := 0) (argsL := [(.int v3), (.int kC.toInt32)]) (rest := []) (a := b219) (BB250).1 (wd 29 rfl) (wd 30 rfl) (wd 32 rfl) (wd 31 rfl) (wd 2 rfl) (wd 33 rfl) (by decide) rfl (con_put l Z a0 hw n0 h250 X252.size b219 a1_220 a2_220 a3_220 (bN3 4 kA kB) (bO2 4 kA kB) [v1, v2, 0] 2 ((kB : Nat).toInt32) v3 kC.toInt32 kC DD220 (by decide) rfl lO2 rfl (by rw [fa3]; exact hC4) (by rw [fa3]; decide) BB250) (by decide) (by decide) rfl (lenOf pd_5 rfl) (Nat.le_of_ble_eq_true rfl) rfl at_197 (by decide) (by decide) (fun T283 h283 v283 X283 hQ283 => ?_)
          obtain ⟨rfl, BA283⟩ := hQ283
          have BB283 : BQ Z h283 b219 a1_220 a2_220 a3_220 (bN4 4 kA kB kC) (bO4 4 kA kB kC) [v1, v2, v3] (3 : Nat).toInt32 (kB : Nat).toInt32 := BA283
          show Go p e below s n0 _ _ _ (T283.setTop (mkF m 200 #[.val (.int v1), .val (.int v2), .val (.int v3), .val (.int k1), .val (.int k2), .val (.int k3), .val (.ref b219), .val (.int kA.toInt32), .val (.int kB.toInt32), .val (.int v2), .val (.int kB.toInt32), .val (.int kB.toInt32), .val (.int (1 : Int32)), .val (.int v1), .val (.int kA.toInt32), .val (.int kC.toInt32), .unset, .unset, .unset, .unset, .unset] []))
          refine Go.st (fun _ => XS.aload X283.here C.hx rfl (hb C.hby at_200) rfl rfl) ?_
          show Go p e below s n0 _ _ _ (T283.setTop (mkF m 202 #[.val (.int v1), .val (.int v2), .val (.int v3), .val (.int k1), .val (.int k2), .val (.int k3), .val (.ref b219), .val (.int kA.toInt32), .val (.int kB.toInt32), .val (.int v2), .val (.int kB.toInt32), .val (.int kB.toInt32), .val (.int (1 : Int32)), .val (.int v1), .val (.int kA.toInt32), .val (.int kC.toInt32), .unset, .unset, .unset, .unset, .unset] [(.ref b219)]))
          refine Go.callV C X283 (W := 0) (argsL := []) (rest := []) (a := b219) (BB283).1 (wd 34 rfl) (wd 35 rfl) (wd 37 rfl) (wd 36 rfl) (wd 2 rfl) (wd 38 rfl) (by decide) rfl (con_take l Z a0 hw n0 h283 X283.size b219 a1_220 a2_220 a3_220 (bN4 4 kA kB kC) (bO4 4 kA kB kC) [v1, v2, v3] ((3 : Nat).toInt32) ((kB : Nat).toInt32) kB DD220 rfl lO4 (by rw [fb4]; decide) fv4 rfl (by rw [fb4]; omega) BB283) (by decide) (by decide) rfl (lenOf pd_6 rfl) (Nat.le_of_ble_eq_true rfl) rfl at_202 (by decide) (by decide) (fun T284 h284 v284 X284 hQ284 => ?_)
          obtain ⟨rfl, BA284⟩ := hQ284
          rw [tkV_hit (e := 0) fb4 fk1 (by omega) fe1]
          have BB284 : BQ Z h284 b219 a1_220 a2_220 a3_220 (bN5 4 kA kB kC) (bO4 4 kA kB kC) [v1, v2, v3] (3 : Nat).toInt32 (kA : Nat).toInt32 := by have u := BA284; rw [fk1] at u; rw [show bN5 4 kA kB kC = tkN (bN4 4 kA kB kC) (bO4 4 kA kB kC) kB from by unfold bN5 bK0; rw [fk0]]; exact u
          show Go p e below s n0 _ _ _ (T284.setTop (mkF m 205 #[.val (.int v1), .val (.int v2), .val (.int v3), .val (.int k1), .val (.int k2), .val (.int k3), .val (.ref b219), .val (.int kA.toInt32), .val (.int kB.toInt32), .val (.int v2), .val (.int kB.toInt32), .val (.int kB.toInt32), .val (.int (1 : Int32)), .val (.int v1), .val (.int kA.toInt32), .val (.int kC.toInt32), .unset, .unset, .unset, .unset, .unset] [(.int v1)]))
          refine Go.st (fun _ => XS.istore X284.here C.hx rfl (hb C.hby at_205) rfl (l' := #[.val (.int v1), .val (.int v2), .val (.int v3), .val (.int k1), .val (.int k2), .val (.int k3), .val (.ref b219), .val (.int kA.toInt32), .val (.int kB.toInt32), .val (.int v2), .val (.int kB.toInt32), .val (.int kB.toInt32), .val (.int (1 : Int32)), .val (.int v1), .val (.int kA.toInt32), .val (.int kC.toInt32), .val (.int v1), .unset, .unset, .unset, .unset]) rfl) ?_
          show Go p e below s n0 _ _ _ (T284.setTop (mkF m 207 #[.val (.int v1), .val (.int v2), .val (.int v3), .val (.int k1), .val (.int k2), .val (.int k3), .val (.ref b219), .val (.int kA.toInt32), .val (.int kB.toInt32), .val (.int v2), .val (.int kB.toInt32), .val (.int kB.toInt32), .val (.int (1 : Int32)), .val (.int v1), .val (.int kA.toInt32), .val (.int kC.toInt32), .val (.int v1), .unset, .unset, .unset, .unset] []))
          refine Go.st (fun _ => XS.aload X284.here C.hx rfl (hb C.hby at_207) rfl rfl) ?_
          show Go p e below s n0 _ _ _ (T284.setTop (mkF m 209 #[.val (.int v1), .val (.int v2), .val (.int v3), .val (.int k1), .val (.int k2), .val (.int k3), .val (.ref b219), .val (.int kA.toInt32), .val (.int kB.toInt32), .val (.int v2), .val (.int kB.toInt32), .val (.int kB.toInt32), .val (.int (1 : Int32)), .val (.int v1), .val (.int kA.toInt32), .val (.int kC.toInt32), .val (.int v1), .unset, .unset, .unset, .unset] [(.ref b219)]))
          refine Go.callV C X284 (W := 0) (argsL := []) (rest := []) (a := b219) (BB284).1 (wd 39 rfl) (wd 40 rfl) (wd 42 rfl) (wd 41 rfl) (wd 2 rfl) (wd 43 rfl) (by decide) rfl (con_key l Z a0 hw n0 h284 X284.size b219 a1_220 a2_220 a3_220 (bN5 4 kA kB kC) (bO4 4 kA kB kC) [v1, v2, v3] _ _ BB284) (by decide) (by decide) rfl (lenOf pd_7 rfl) (Nat.le_of_ble_eq_true rfl) rfl at_209 (by decide) (by decide) (fun T285 h285 v285 X285 hQ285 => ?_)
          obtain ⟨rfl, hh285⟩ := hQ285
          rw [hh285] at X285
          show Go p e below s n0 _ _ _ (T285.setTop (mkF m 212 #[.val (.int v1), .val (.int v2), .val (.int v3), .val (.int k1), .val (.int k2), .val (.int k3), .val (.ref b219), .val (.int kA.toInt32), .val (.int kB.toInt32), .val (.int v2), .val (.int kB.toInt32), .val (.int kB.toInt32), .val (.int (1 : Int32)), .val (.int v1), .val (.int kA.toInt32), .val (.int kC.toInt32), .val (.int v1), .unset, .unset, .unset, .unset] [(.int kA.toInt32)]))
          refine Go.st (fun _ => XS.istore X285.here C.hx rfl (hb C.hby at_212) rfl (l' := #[.val (.int v1), .val (.int v2), .val (.int v3), .val (.int k1), .val (.int k2), .val (.int k3), .val (.ref b219), .val (.int kA.toInt32), .val (.int kB.toInt32), .val (.int v2), .val (.int kB.toInt32), .val (.int kB.toInt32), .val (.int (1 : Int32)), .val (.int v1), .val (.int kA.toInt32), .val (.int kC.toInt32), .val (.int v1), .val (.int kA.toInt32), .unset, .unset, .unset]) rfl) ?_
          show Go p e below s n0 _ _ _ (T285.setTop (mkF m 214 #[.val (.int v1), .val (.int v2), .val (.int v3), .val (.int k1), .val (.int k2), .val (.int k3), .val (.ref b219), .val (.int kA.toInt32), .val (.int kB.toInt32), .val (.int v2), .val (.int kB.toInt32), .val (.int kB.toInt32), .val (.int (1 : Int32)), .val (.int v1), .val (.int kA.toInt32), .val (.int kC.toInt32), .val (.int v1), .val (.int kA.toInt32), .unset, .unset, .unset] []))
          refine Go.st (fun _ => XS.aload X285.here C.hx rfl (hb C.hby at_214) rfl rfl) ?_
          show Go p e below s n0 _ _ _ (T285.setTop (mkF m 216 #[.val (.int v1), .val (.int v2), .val (.int v3), .val (.int k1), .val (.int k2), .val (.int k3), .val (.ref b219), .val (.int kA.toInt32), .val (.int kB.toInt32), .val (.int v2), .val (.int kB.toInt32), .val (.int kB.toInt32), .val (.int (1 : Int32)), .val (.int v1), .val (.int kA.toInt32), .val (.int kC.toInt32), .val (.int v1), .val (.int kA.toInt32), .unset, .unset, .unset] [(.ref b219)]))
          refine Go.callV C X285 (W := 0) (argsL := []) (rest := []) (a := b219) (BB284).1 (wd 34 rfl) (wd 35 rfl) (wd 37 rfl) (wd 36 rfl) (wd 2 rfl) (wd 38 rfl) (by decide) rfl (con_take l Z a0 hw n0 h284 X285.size b219 a1_220 a2_220 a3_220 (bN5 4 kA kB kC) (bO4 4 kA kB kC) [v1, v2, v3] ((3 : Nat).toInt32) ((kA : Nat).toInt32) kA DD220 rfl lO4 (by rw [fb5]; decide) fv5 rfl (by rw [fb5]; omega) BB284) (by decide) (by decide) rfl (lenOf pd_6 rfl) (Nat.le_of_ble_eq_true rfl) rfl at_216 (by decide) (by decide) (fun T286 h286 v286 X286 hQ286 => ?_)
          obtain ⟨rfl, BA286⟩ := hQ286
          rw [tkV_hit (e := 2) fb5 fk2 (by omega) fe2]
          have BB286 : BQ Z h286 b219 a1_220 a2_220 a3_220 (bN6 4 kA kB kC) (bO4 4 kA kB kC) [v1, v2, v3] (3 : Nat).toInt32 (kC : Nat).toInt32 := by have u := BA286; rw [fk2] at u; rw [show bN6 4 kA kB kC = tkN (bN5 4 kA kB kC) (bO4 4 kA kB kC) kA from by unfold bN6 bK1 bK0; rw [fk0, fk1]]; exact u
          show Go p e below s n0 _ _ _ (T286.setTop (mkF m 219 #[.val (.int v1), .val (.int v2), .val (.int v3), .val (.int k1), .val (.int k2), .val (.int k3), .val (.ref b219), .val (.int kA.toInt32), .val (.int kB.toInt32), .val (.int v2), .val (.int kB.toInt32), .val (.int kB.toInt32), .val (.int (1 : Int32)), .val (.int v1), .val (.int kA.toInt32), .val (.int kC.toInt32), .val (.int v1), .val (.int kA.toInt32), .unset, .unset, .unset] [(.int v3)]))
          refine Go.st (fun _ => XS.istore X286.here C.hx rfl (hb C.hby at_219) rfl (l' := #[.val (.int v1), .val (.int v2), .val (.int v3), .val (.int k1), .val (.int k2), .val (.int k3), .val (.ref b219), .val (.int kA.toInt32), .val (.int kB.toInt32), .val (.int v2), .val (.int kB.toInt32), .val (.int kB.toInt32), .val (.int (1 : Int32)), .val (.int v1), .val (.int kA.toInt32), .val (.int kC.toInt32), .val (.int v1), .val (.int kA.toInt32), .val (.int v3), .unset, .unset]) rfl) ?_
          show Go p e below s n0 _ _ _ (T286.setTop (mkF m 221 #[.val (.int v1), .val (.int v2), .val (.int v3), .val (.int k1), .val (.int k2), .val (.int k3), .val (.ref b219), .val (.int kA.toInt32), .val (.int kB.toInt32), .val (.int v2), .val (.int kB.toInt32), .val (.int kB.toInt32), .val (.int (1 : Int32)), .val (.int v1), .val (.int kA.toInt32), .val (.int kC.toInt32), .val (.int v1), .val (.int kA.toInt32), .val (.int v3), .unset, .unset] []))
          refine Go.st (fun _ => XS.aload X286.here C.hx rfl (hb C.hby at_221) rfl rfl) ?_
          show Go p e below s n0 _ _ _ (T286.setTop (mkF m 223 #[.val (.int v1), .val (.int v2), .val (.int v3), .val (.int k1), .val (.int k2), .val (.int k3), .val (.ref b219), .val (.int kA.toInt32), .val (.int kB.toInt32), .val (.int v2), .val (.int kB.toInt32), .val (.int kB.toInt32), .val (.int (1 : Int32)), .val (.int v1), .val (.int kA.toInt32), .val (.int kC.toInt32), .val (.int v1), .val (.int kA.toInt32), .val (.int v3), .unset, .unset] [(.ref b219)]))
          refine Go.callV C X286 (W := 0) (argsL := []) (rest := []) (a := b219) (BB286).1 (wd 39 rfl) (wd 40 rfl) (wd 42 rfl) (wd 41 rfl) (wd 2 rfl) (wd 43 rfl) (by decide) rfl (con_key l Z a0 hw n0 h286 X286.size b219 a1_220 a2_220 a3_220 (bN6 4 kA kB kC) (bO4 4 kA kB kC) [v1, v2, v3] _ _ BB286) (by decide) (by decide) rfl (lenOf pd_7 rfl) (Nat.le_of_ble_eq_true rfl) rfl at_223 (by decide) (by decide) (fun T287 h287 v287 X287 hQ287 => ?_)
          obtain ⟨rfl, hh287⟩ := hQ287
          rw [hh287] at X287
          show Go p e below s n0 _ _ _ (T287.setTop (mkF m 226 #[.val (.int v1), .val (.int v2), .val (.int v3), .val (.int k1), .val (.int k2), .val (.int k3), .val (.ref b219), .val (.int kA.toInt32), .val (.int kB.toInt32), .val (.int v2), .val (.int kB.toInt32), .val (.int kB.toInt32), .val (.int (1 : Int32)), .val (.int v1), .val (.int kA.toInt32), .val (.int kC.toInt32), .val (.int v1), .val (.int kA.toInt32), .val (.int v3), .unset, .unset] [(.int kC.toInt32)]))
          refine Go.st (fun _ => XS.istore X287.here C.hx rfl (hb C.hby at_226) rfl (l' := #[.val (.int v1), .val (.int v2), .val (.int v3), .val (.int k1), .val (.int k2), .val (.int k3), .val (.ref b219), .val (.int kA.toInt32), .val (.int kB.toInt32), .val (.int v2), .val (.int kB.toInt32), .val (.int kB.toInt32), .val (.int (1 : Int32)), .val (.int v1), .val (.int kA.toInt32), .val (.int kC.toInt32), .val (.int v1), .val (.int kA.toInt32), .val (.int v3), .val (.int kC.toInt32), .unset]) rfl) ?_
          show Go p e below s n0 _ _ _ (T287.setTop (mkF m 228 #[.val (.int v1), .val (.int v2), .val (.int v3), .val (.int k1), .val (.int k2), .val (.int k3), .val (.ref b219), .val (.int kA.toInt32), .val (.int kB.toInt32), .val (.int v2), .val (.int kB.toInt32), .val (.int kB.toInt32), .val (.int (1 : Int32)), .val (.int v1), .val (.int kA.toInt32), .val (.int kC.toInt32), .val (.int v1), .val (.int kA.toInt32), .val (.int v3), .val (.int kC.toInt32), .unset] []))
          refine Go.st (fun _ => XS.aload X287.here C.hx rfl (hb C.hby at_228) rfl rfl) ?_
          show Go p e below s n0 _ _ _ (T287.setTop (mkF m 230 #[.val (.int v1), .val (.int v2), .val (.int v3), .val (.int k1), .val (.int k2), .val (.int k3), .val (.ref b219), .val (.int kA.toInt32), .val (.int kB.toInt32), .val (.int v2), .val (.int kB.toInt32), .val (.int kB.toInt32), .val (.int (1 : Int32)), .val (.int v1), .val (.int kA.toInt32), .val (.int kC.toInt32), .val (.int v1), .val (.int kA.toInt32), .val (.int v3), .val (.int kC.toInt32), .unset] [(.ref b219)]))
          refine Go.callV C X287 (W := 0) (argsL := []) (rest := []) (a := b219) (BB286).1 (wd 34 rfl) (wd 35 rfl) (wd 37 rfl) (wd 36 rfl) (wd 2 rfl) (wd 38 rfl) (by decide) rfl (con_take l Z a0 hw n0 h286 X287.size b219 a1_220 a2_220 a3_220 (bN6 4 kA kB kC) (bO4 4 kA kB kC) [v1, v2, v3] ((3 : Nat).toInt32) ((kC : Nat).toInt32) kC DD220 rfl lO4 (by rw [fb6]; decide) fv6 rfl (by rw [fb6]; omega) BB286) (by decide) (by decide) rfl (lenOf pd_6 rfl) (Nat.le_of_ble_eq_true rfl) rfl at_230 (by decide) (by decide) (fun T288 h288 v288 X288 hQ288 => ?_)
          obtain ⟨rfl, BA288⟩ := hQ288
          rw [tkV_end fb6 fk3]
          have BB288 : BQ Z h288 b219 a1_220 a2_220 a3_220 (tkN (bN6 4 kA kB kC) (bO4 4 kA kB kC) kC) (bO4 4 kA kB kC) [v1, v2, v3] (3 : Nat).toInt32 (4 : Nat).toInt32 := by have u := BA288; rw [fk3] at u; exact u
          show Go p e below s n0 _ _ _ (T288.setTop (mkF m 233 #[.val (.int v1), .val (.int v2), .val (.int v3), .val (.int k1), .val (.int k2), .val (.int k3), .val (.ref b219), .val (.int kA.toInt32), .val (.int kB.toInt32), .val (.int v2), .val (.int kB.toInt32), .val (.int kB.toInt32), .val (.int (1 : Int32)), .val (.int v1), .val (.int kA.toInt32), .val (.int kC.toInt32), .val (.int v1), .val (.int kA.toInt32), .val (.int v3), .val (.int kC.toInt32), .unset] [(.int (-1 : Int32))]))
          refine Go.st (fun _ => XS.istore X288.here C.hx rfl (hb C.hby at_233) rfl (l' := #[.val (.int v1), .val (.int v2), .val (.int v3), .val (.int k1), .val (.int k2), .val (.int k3), .val (.ref b219), .val (.int kA.toInt32), .val (.int kB.toInt32), .val (.int v2), .val (.int kB.toInt32), .val (.int kB.toInt32), .val (.int (1 : Int32)), .val (.int v1), .val (.int kA.toInt32), .val (.int kC.toInt32), .val (.int v1), .val (.int kA.toInt32), .val (.int v3), .val (.int kC.toInt32), .val (.int (-1 : Int32))]) rfl) ?_
          show Go p e below s n0 _ _ _ (T288.setTop (mkF m 235 #[.val (.int v1), .val (.int v2), .val (.int v3), .val (.int k1), .val (.int k2), .val (.int k3), .val (.ref b219), .val (.int kA.toInt32), .val (.int kB.toInt32), .val (.int v2), .val (.int kB.toInt32), .val (.int kB.toInt32), .val (.int (1 : Int32)), .val (.int v1), .val (.int kA.toInt32), .val (.int kC.toInt32), .val (.int v1), .val (.int kA.toInt32), .val (.int v3), .val (.int kC.toInt32), .val (.int (-1 : Int32))] []))
          refine Go.st (fun _ => XS.iload X288.here C.hx rfl (hb C.hby at_235) rfl) ?_
          show Go p e below s n0 _ _ _ (T288.setTop (mkF m 237 #[.val (.int v1), .val (.int v2), .val (.int v3), .val (.int k1), .val (.int k2), .val (.int k3), .val (.ref b219), .val (.int kA.toInt32), .val (.int kB.toInt32), .val (.int v2), .val (.int kB.toInt32), .val (.int kB.toInt32), .val (.int (1 : Int32)), .val (.int v1), .val (.int kA.toInt32), .val (.int kC.toInt32), .val (.int v1), .val (.int kA.toInt32), .val (.int v3), .val (.int kC.toInt32), .val (.int (-1 : Int32))] [(.int (1 : Int32))]))
          refine Go.if_eq C X288 (pc' := 271) at_237 (by decide) (by decide) (fun hc => absurd hc (by decide)) (fun _ => ?_)
          show Go p e below s n0 _ _ _ (T288.setTop (mkF m 240 #[.val (.int v1), .val (.int v2), .val (.int v3), .val (.int k1), .val (.int k2), .val (.int k3), .val (.ref b219), .val (.int kA.toInt32), .val (.int kB.toInt32), .val (.int v2), .val (.int kB.toInt32), .val (.int kB.toInt32), .val (.int (1 : Int32)), .val (.int v1), .val (.int kA.toInt32), .val (.int kC.toInt32), .val (.int v1), .val (.int kA.toInt32), .val (.int v3), .val (.int kC.toInt32), .val (.int (-1 : Int32))] []))
          refine Go.st (fun _ => XS.iload X288.here C.hx rfl (hb C.hby at_240) rfl) ?_
          show Go p e below s n0 _ _ _ (T288.setTop (mkF m 242 #[.val (.int v1), .val (.int v2), .val (.int v3), .val (.int k1), .val (.int k2), .val (.int k3), .val (.ref b219), .val (.int kA.toInt32), .val (.int kB.toInt32), .val (.int v2), .val (.int kB.toInt32), .val (.int kB.toInt32), .val (.int (1 : Int32)), .val (.int v1), .val (.int kA.toInt32), .val (.int kC.toInt32), .val (.int v1), .val (.int kA.toInt32), .val (.int v3), .val (.int kC.toInt32), .val (.int (-1 : Int32))] [(.int v1)]))
          refine Go.st (fun _ => XS.iload X288.here C.hx rfl (hb C.hby at_242) rfl) ?_
          show Go p e below s n0 _ _ _ (T288.setTop (mkF m 244 #[.val (.int v1), .val (.int v2), .val (.int v3), .val (.int k1), .val (.int k2), .val (.int k3), .val (.ref b219), .val (.int kA.toInt32), .val (.int kB.toInt32), .val (.int v2), .val (.int kB.toInt32), .val (.int kB.toInt32), .val (.int (1 : Int32)), .val (.int v1), .val (.int kA.toInt32), .val (.int kC.toInt32), .val (.int v1), .val (.int kA.toInt32), .val (.int v3), .val (.int kC.toInt32), .val (.int (-1 : Int32))] [(.int kA.toInt32), (.int v1)]))
          refine Go.st (fun _ => XS.iload X288.here C.hx rfl (hb C.hby at_244) rfl) ?_
          show Go p e below s n0 _ _ _ (T288.setTop (mkF m 246 #[.val (.int v1), .val (.int v2), .val (.int v3), .val (.int k1), .val (.int k2), .val (.int k3), .val (.ref b219), .val (.int kA.toInt32), .val (.int kB.toInt32), .val (.int v2), .val (.int kB.toInt32), .val (.int kB.toInt32), .val (.int (1 : Int32)), .val (.int v1), .val (.int kA.toInt32), .val (.int kC.toInt32), .val (.int v1), .val (.int kA.toInt32), .val (.int v3), .val (.int kC.toInt32), .val (.int (-1 : Int32))] [(.int v3), (.int kA.toInt32), (.int v1)]))
          refine Go.st (fun _ => XS.iload X288.here C.hx rfl (hb C.hby at_246) rfl) ?_
          show Go p e below s n0 _ _ _ (T288.setTop (mkF m 248 #[.val (.int v1), .val (.int v2), .val (.int v3), .val (.int k1), .val (.int k2), .val (.int k3), .val (.ref b219), .val (.int kA.toInt32), .val (.int kB.toInt32), .val (.int v2), .val (.int kB.toInt32), .val (.int kB.toInt32), .val (.int (1 : Int32)), .val (.int v1), .val (.int kA.toInt32), .val (.int kC.toInt32), .val (.int v1), .val (.int kA.toInt32), .val (.int v3), .val (.int kC.toInt32), .val (.int (-1 : Int32))] [(.int kC.toInt32), (.int v3), (.int kA.toInt32), (.int v1)]))
          refine Go.st (fun _ => XS.iload X288.here C.hx rfl (hb C.hby at_248) rfl) ?_
          show Go p e below s n0 _ _ _ (T288.setTop (mkF m 250 #[.val (.int v1), .val (.int v2), .val (.int v3), .val (.int k1), .val (.int k2), .val (.int k3), .val (.ref b219), .val (.int kA.toInt32), .val (.int kB.toInt32), .val (.int v2), .val (.int kB.toInt32), .val (.int kB.toInt32), .val (.int (1 : Int32)), .val (.int v1), .val (.int kA.toInt32), .val (.int kC.toInt32), .val (.int v1), .val (.int kA.toInt32), .val (.int v3), .val (.int kC.toInt32), .val (.int (-1 : Int32))] [(.int v1), (.int kC.toInt32), (.int v3), (.int kA.toInt32), (.int v1)]))
          refine Go.st (fun _ => XS.iload X288.here C.hx rfl (hb C.hby at_250) rfl) ?_
          show Go p e below s n0 _ _ _ (T288.setTop (mkF m 252 #[.val (.int v1), .val (.int v2), .val (.int v3), .val (.int k1), .val (.int k2), .val (.int k3), .val (.ref b219), .val (.int kA.toInt32), .val (.int kB.toInt32), .val (.int v2), .val (.int kB.toInt32), .val (.int kB.toInt32), .val (.int (1 : Int32)), .val (.int v1), .val (.int kA.toInt32), .val (.int kC.toInt32), .val (.int v1), .val (.int kA.toInt32), .val (.int v3), .val (.int kC.toInt32), .val (.int (-1 : Int32))] [(.int kA.toInt32), (.int v1), (.int kC.toInt32), (.int v3), (.int kA.toInt32), (.int v1)]))
          refine Go.st (fun _ => XS.iloadN X288.here C.hx rfl (hb C.hby at_252) rfl) ?_
          show Go p e below s n0 _ _ _ (T288.setTop (mkF m 253 #[.val (.int v1), .val (.int v2), .val (.int v3), .val (.int k1), .val (.int k2), .val (.int k3), .val (.ref b219), .val (.int kA.toInt32), .val (.int kB.toInt32), .val (.int v2), .val (.int kB.toInt32), .val (.int kB.toInt32), .val (.int (1 : Int32)), .val (.int v1), .val (.int kA.toInt32), .val (.int kC.toInt32), .val (.int v1), .val (.int kA.toInt32), .val (.int v3), .val (.int kC.toInt32), .val (.int (-1 : Int32))] [(.int v3), (.int kA.toInt32), (.int v1), (.int kC.toInt32), (.int v3), (.int kA.toInt32), (.int v1)]))
          refine Go.st (fun _ => XS.iload X288.here C.hx rfl (hb C.hby at_253) rfl) ?_
          show Go p e below s n0 _ _ _ (T288.setTop (mkF m 255 #[.val (.int v1), .val (.int v2), .val (.int v3), .val (.int k1), .val (.int k2), .val (.int k3), .val (.ref b219), .val (.int kA.toInt32), .val (.int kB.toInt32), .val (.int v2), .val (.int kB.toInt32), .val (.int kB.toInt32), .val (.int (1 : Int32)), .val (.int v1), .val (.int kA.toInt32), .val (.int kC.toInt32), .val (.int v1), .val (.int kA.toInt32), .val (.int v3), .val (.int kC.toInt32), .val (.int (-1 : Int32))] [(.int kC.toInt32), (.int v3), (.int kA.toInt32), (.int v1), (.int kC.toInt32), (.int v3), (.int kA.toInt32), (.int v1)]))
          refine Go.callS C X288 (W := 0) (argsL := [(.int v1), (.int kA.toInt32), (.int v3), (.int kC.toInt32), (.int v1), (.int kA.toInt32), (.int v3), (.int kC.toInt32)]) (rest := []) (wd 48 rfl) (wd 49 rfl) (wd 50 rfl) (wd 51 rfl) (by decide) (con_pair l Z a0 hw n0 h288 X288.size v1 kA.toInt32 v3 kC.toInt32 v1 kA.toInt32 v3 kC.toInt32) (by decide) (by decide) rfl (lenOf pd_9 rfl) (Nat.le_of_ble_eq_true rfl) rfl at_255 (by decide) (by decide) (fun T290 h290 v290 X290 hQ290 => ?_)
          obtain ⟨rfl, hh290⟩ := hQ290
          rw [hh290] at X290
          rw [show pairF v1 kA.toInt32 v3 kC.toInt32 v1 kA.toInt32 v3 kC.toInt32 = 1 from by simp [pairF, (ltI hA4 hC4).mpr hRC]]
          show Go p e below s n0 _ _ _ (T290.setTop (mkF m 258 #[.val (.int v1), .val (.int v2), .val (.int v3), .val (.int k1), .val (.int k2), .val (.int k3), .val (.ref b219), .val (.int kA.toInt32), .val (.int kB.toInt32), .val (.int v2), .val (.int kB.toInt32), .val (.int kB.toInt32), .val (.int (1 : Int32)), .val (.int v1), .val (.int kA.toInt32), .val (.int kC.toInt32), .val (.int v1), .val (.int kA.toInt32), .val (.int v3), .val (.int kC.toInt32), .val (.int (-1 : Int32))] [(.int (1 : Int32))]))
          refine Go.if_eq C X290 (pc' := 271) at_258 (by decide) (by decide) (fun hc => absurd hc (by decide)) (fun _ => ?_)
          show Go p e below s n0 _ _ _ (T290.setTop (mkF m 261 #[.val (.int v1), .val (.int v2), .val (.int v3), .val (.int k1), .val (.int k2), .val (.int k3), .val (.ref b219), .val (.int kA.toInt32), .val (.int kB.toInt32), .val (.int v2), .val (.int kB.toInt32), .val (.int kB.toInt32), .val (.int (1 : Int32)), .val (.int v1), .val (.int kA.toInt32), .val (.int kC.toInt32), .val (.int v1), .val (.int kA.toInt32), .val (.int v3), .val (.int kC.toInt32), .val (.int (-1 : Int32))] []))
          refine Go.st (fun _ => XS.iload X290.here C.hx rfl (hb C.hby at_261) rfl) ?_
          show Go p e below s n0 _ _ _ (T290.setTop (mkF m 263 #[.val (.int v1), .val (.int v2), .val (.int v3), .val (.int k1), .val (.int k2), .val (.int k3), .val (.ref b219), .val (.int kA.toInt32), .val (.int kB.toInt32), .val (.int v2), .val (.int kB.toInt32), .val (.int kB.toInt32), .val (.int (1 : Int32)), .val (.int v1), .val (.int kA.toInt32), .val (.int kC.toInt32), .val (.int v1), .val (.int kA.toInt32), .val (.int v3), .val (.int kC.toInt32), .val (.int (-1 : Int32))] [(.int (-1 : Int32))]))
          refine Go.st (fun _ => XS.iconst X290.here C.hx rfl (hb C.hby at_263)) ?_
          show Go p e below s n0 _ _ _ (T290.setTop (mkF m 264 #[.val (.int v1), .val (.int v2), .val (.int v3), .val (.int k1), .val (.int k2), .val (.int k3), .val (.ref b219), .val (.int kA.toInt32), .val (.int kB.toInt32), .val (.int v2), .val (.int kB.toInt32), .val (.int kB.toInt32), .val (.int (1 : Int32)), .val (.int v1), .val (.int kA.toInt32), .val (.int kC.toInt32), .val (.int v1), .val (.int kA.toInt32), .val (.int v3), .val (.int kC.toInt32), .val (.int (-1 : Int32))] [(.int (-1 : Int32)), (.int (-1 : Int32))]))
          refine Go.icmp_ne C X290 (pc' := 271) at_264 (by decide) (by decide) (fun hc => absurd hc (by decide)) (fun _ => ?_)
          show Go p e below s n0 _ _ _ (T290.setTop (mkF m 267 #[.val (.int v1), .val (.int v2), .val (.int v3), .val (.int k1), .val (.int k2), .val (.int k3), .val (.ref b219), .val (.int kA.toInt32), .val (.int kB.toInt32), .val (.int v2), .val (.int kB.toInt32), .val (.int kB.toInt32), .val (.int (1 : Int32)), .val (.int v1), .val (.int kA.toInt32), .val (.int kC.toInt32), .val (.int v1), .val (.int kA.toInt32), .val (.int v3), .val (.int kC.toInt32), .val (.int (-1 : Int32))] []))
          refine Go.st (fun _ => XS.iconst X290.here C.hx rfl (hb C.hby at_267)) ?_
          show Go p e below s n0 _ _ _ (T290.setTop (mkF m 268 #[.val (.int v1), .val (.int v2), .val (.int v3), .val (.int k1), .val (.int k2), .val (.int k3), .val (.ref b219), .val (.int kA.toInt32), .val (.int kB.toInt32), .val (.int v2), .val (.int kB.toInt32), .val (.int kB.toInt32), .val (.int (1 : Int32)), .val (.int v1), .val (.int kA.toInt32), .val (.int kC.toInt32), .val (.int v1), .val (.int kA.toInt32), .val (.int v3), .val (.int kC.toInt32), .val (.int (-1 : Int32))] [(.int (1 : Int32))]))
          refine Go.st (fun _ => XS.goto X290.here C.hx rfl (pc0 := 268) (pc' := 272) rfl (hb C.hby at_268) (by decide) (by decide)) ?_
          show Go p e below s n0 _ _ _ (T290.setTop (mkF m 272 #[.val (.int v1), .val (.int v2), .val (.int v3), .val (.int k1), .val (.int k2), .val (.int k3), .val (.ref b219), .val (.int kA.toInt32), .val (.int kB.toInt32), .val (.int v2), .val (.int kB.toInt32), .val (.int kB.toInt32), .val (.int (1 : Int32)), .val (.int v1), .val (.int kA.toInt32), .val (.int kC.toInt32), .val (.int v1), .val (.int kA.toInt32), .val (.int v3), .val (.int kC.toInt32), .val (.int (-1 : Int32))] [(.int (1 : Int32))]))
          exact Go.retZ C X290 (by decide) at_272 rfl (by decide) (by decide)
        · rw [if_neg hRC] at fk1 fe1 fk2 fe2
          rw [if_neg hRC] at fe1 fe2
          unfold bK2 bK1 bK0 at fk3
          unfold bK2 bK1 bK0 at fk2
          unfold bK1 bK0 at fk1
          rw [fk0] at fk1 fk2 fk3
          rw [fk1] at fk2 fk3
          rw [fk2] at fk3
          show Go p e below s n0 _ _ _ (T252.setTop (mkF m 192 #[.val (.int v1), .val (.int v2), .val (.int v3), .val (.int k1), .val (.int k2), .val (.int k3), .val (.ref b219), .val (.int kA.toInt32), .val (.int kB.toInt32), .val (.int v2), .val (.int kB.toInt32), .val (.int kB.toInt32), .val (.int (1 : Int32)), .val (.int v1), .val (.int kA.toInt32), .val (.int kC.toInt32), .unset, .unset, .unset, .unset, .unset] []))
          refine Go.st (fun _ => XS.aload X252.here C.hx rfl (hb C.hby at_192) rfl rfl) ?_
          show Go p e below s n0 _ _ _ (T252.setTop (mkF m 194 #[.val (.int v1), .val (.int v2), .val (.int v3), .val (.int k1), .val (.int k2), .val (.int k3), .val (.ref b219), .val (.int kA.toInt32), .val (.int kB.toInt32), .val (.int v2), .val (.int kB.toInt32), .val (.int kB.toInt32), .val (.int (1 : Int32)), .val (.int v1), .val (.int kA.toInt32), .val (.int kC.toInt32), .unset, .unset, .unset, .unset, .unset] [(.ref b219)]))
          refine Go.st (fun _ => XS.iloadN X252.here C.hx rfl (hb C.hby at_194) rfl) ?_
          show Go p e below s n0 _ _ _ (T252.setTop (mkF m 195 #[.val (.int v1), .val (.int v2), .val (.int v3), .val (.int k1), .val (.int k2), .val (.int k3), .val (.ref b219), .val (.int kA.toInt32), .val (.int kB.toInt32), .val (.int v2), .val (.int kB.toInt32), .val (.int kB.toInt32), .val (.int (1 : Int32)), .val (.int v1), .val (.int kA.toInt32), .val (.int kC.toInt32), .unset, .unset, .unset, .unset, .unset] [(.int v3), (.ref b219)]))
          refine Go.st (fun _ => XS.iload X252.here C.hx rfl (hb C.hby at_195) rfl) ?_
          show Go p e below s n0 _ _ _ (T252.setTop (mkF m 197 #[.val (.int v1), .val (.int v2), .val (.int v3), .val (.int k1), .val (.int k2), .val (.int k3), .val (.ref b219), .val (.int kA.toInt32), .val (.int kB.toInt32), .val (.int v2), .val (.int kB.toInt32), .val (.int kB.toInt32), .val (.int (1 : Int32)), .val (.int v1), .val (.int kA.toInt32), .val (.int kC.toInt32), .unset, .unset, .unset, .unset, .unset] [(.int kC.toInt32), (.int v3), (.ref b219)]))
          refine Go.callV C X252 (W := 0) (argsL := [(.int v3), (.int kC.toInt32)]) (rest := []) (a := b219) (BB250).1 (wd 29 rfl) (wd 30 rfl) (wd 32 rfl) (wd 31 rfl) (wd 2 rfl) (wd 33 rfl) (by decide) rfl (con_put l Z a0 hw n0 h250 X252.size b219 a1_220 a2_220 a3_220 (bN3 4 kA kB) (bO2 4 kA kB) [v1, v2, 0] 2 ((kB : Nat).toInt32) v3 kC.toInt32 kC DD220 (by decide) rfl lO2 rfl (by rw [fa3]; exact hC4) (by rw [fa3]; decide) BB250) (by decide) (by decide) rfl (lenOf pd_5 rfl) (Nat.le_of_ble_eq_true rfl) rfl at_197 (by decide) (by decide) (fun T293 h293 v293 X293 hQ293 => ?_)
          obtain ⟨rfl, BA293⟩ := hQ293
          have BB293 : BQ Z h293 b219 a1_220 a2_220 a3_220 (bN4 4 kA kB kC) (bO4 4 kA kB kC) [v1, v2, v3] (3 : Nat).toInt32 (kB : Nat).toInt32 := BA293
          show Go p e below s n0 _ _ _ (T293.setTop (mkF m 200 #[.val (.int v1), .val (.int v2), .val (.int v3), .val (.int k1), .val (.int k2), .val (.int k3), .val (.ref b219), .val (.int kA.toInt32), .val (.int kB.toInt32), .val (.int v2), .val (.int kB.toInt32), .val (.int kB.toInt32), .val (.int (1 : Int32)), .val (.int v1), .val (.int kA.toInt32), .val (.int kC.toInt32), .unset, .unset, .unset, .unset, .unset] []))
          refine Go.st (fun _ => XS.aload X293.here C.hx rfl (hb C.hby at_200) rfl rfl) ?_
          show Go p e below s n0 _ _ _ (T293.setTop (mkF m 202 #[.val (.int v1), .val (.int v2), .val (.int v3), .val (.int k1), .val (.int k2), .val (.int k3), .val (.ref b219), .val (.int kA.toInt32), .val (.int kB.toInt32), .val (.int v2), .val (.int kB.toInt32), .val (.int kB.toInt32), .val (.int (1 : Int32)), .val (.int v1), .val (.int kA.toInt32), .val (.int kC.toInt32), .unset, .unset, .unset, .unset, .unset] [(.ref b219)]))
          refine Go.callV C X293 (W := 0) (argsL := []) (rest := []) (a := b219) (BB293).1 (wd 34 rfl) (wd 35 rfl) (wd 37 rfl) (wd 36 rfl) (wd 2 rfl) (wd 38 rfl) (by decide) rfl (con_take l Z a0 hw n0 h293 X293.size b219 a1_220 a2_220 a3_220 (bN4 4 kA kB kC) (bO4 4 kA kB kC) [v1, v2, v3] ((3 : Nat).toInt32) ((kB : Nat).toInt32) kB DD220 rfl lO4 (by rw [fb4]; decide) fv4 rfl (by rw [fb4]; omega) BB293) (by decide) (by decide) rfl (lenOf pd_6 rfl) (Nat.le_of_ble_eq_true rfl) rfl at_202 (by decide) (by decide) (fun T294 h294 v294 X294 hQ294 => ?_)
          obtain ⟨rfl, BA294⟩ := hQ294
          rw [tkV_hit (e := 2) fb4 fk1 (by omega) fe1]
          have BB294 : BQ Z h294 b219 a1_220 a2_220 a3_220 (bN5 4 kA kB kC) (bO4 4 kA kB kC) [v1, v2, v3] (3 : Nat).toInt32 (kC : Nat).toInt32 := by have u := BA294; rw [fk1] at u; rw [show bN5 4 kA kB kC = tkN (bN4 4 kA kB kC) (bO4 4 kA kB kC) kB from by unfold bN5 bK0; rw [fk0]]; exact u
          show Go p e below s n0 _ _ _ (T294.setTop (mkF m 205 #[.val (.int v1), .val (.int v2), .val (.int v3), .val (.int k1), .val (.int k2), .val (.int k3), .val (.ref b219), .val (.int kA.toInt32), .val (.int kB.toInt32), .val (.int v2), .val (.int kB.toInt32), .val (.int kB.toInt32), .val (.int (1 : Int32)), .val (.int v1), .val (.int kA.toInt32), .val (.int kC.toInt32), .unset, .unset, .unset, .unset, .unset] [(.int v3)]))
          refine Go.st (fun _ => XS.istore X294.here C.hx rfl (hb C.hby at_205) rfl (l' := #[.val (.int v1), .val (.int v2), .val (.int v3), .val (.int k1), .val (.int k2), .val (.int k3), .val (.ref b219), .val (.int kA.toInt32), .val (.int kB.toInt32), .val (.int v2), .val (.int kB.toInt32), .val (.int kB.toInt32), .val (.int (1 : Int32)), .val (.int v1), .val (.int kA.toInt32), .val (.int kC.toInt32), .val (.int v3), .unset, .unset, .unset, .unset]) rfl) ?_
          show Go p e below s n0 _ _ _ (T294.setTop (mkF m 207 #[.val (.int v1), .val (.int v2), .val (.int v3), .val (.int k1), .val (.int k2), .val (.int k3), .val (.ref b219), .val (.int kA.toInt32), .val (.int kB.toInt32), .val (.int v2), .val (.int kB.toInt32), .val (.int kB.toInt32), .val (.int (1 : Int32)), .val (.int v1), .val (.int kA.toInt32), .val (.int kC.toInt32), .val (.int v3), .unset, .unset, .unset, .unset] []))
          refine Go.st (fun _ => XS.aload X294.here C.hx rfl (hb C.hby at_207) rfl rfl) ?_
          show Go p e below s n0 _ _ _ (T294.setTop (mkF m 209 #[.val (.int v1), .val (.int v2), .val (.int v3), .val (.int k1), .val (.int k2), .val (.int k3), .val (.ref b219), .val (.int kA.toInt32), .val (.int kB.toInt32), .val (.int v2), .val (.int kB.toInt32), .val (.int kB.toInt32), .val (.int (1 : Int32)), .val (.int v1), .val (.int kA.toInt32), .val (.int kC.toInt32), .val (.int v3), .unset, .unset, .unset, .unset] [(.ref b219)]))
          refine Go.callV C X294 (W := 0) (argsL := []) (rest := []) (a := b219) (BB294).1 (wd 39 rfl) (wd 40 rfl) (wd 42 rfl) (wd 41 rfl) (wd 2 rfl) (wd 43 rfl) (by decide) rfl (con_key l Z a0 hw n0 h294 X294.size b219 a1_220 a2_220 a3_220 (bN5 4 kA kB kC) (bO4 4 kA kB kC) [v1, v2, v3] _ _ BB294) (by decide) (by decide) rfl (lenOf pd_7 rfl) (Nat.le_of_ble_eq_true rfl) rfl at_209 (by decide) (by decide) (fun T295 h295 v295 X295 hQ295 => ?_)
          obtain ⟨rfl, hh295⟩ := hQ295
          rw [hh295] at X295
          show Go p e below s n0 _ _ _ (T295.setTop (mkF m 212 #[.val (.int v1), .val (.int v2), .val (.int v3), .val (.int k1), .val (.int k2), .val (.int k3), .val (.ref b219), .val (.int kA.toInt32), .val (.int kB.toInt32), .val (.int v2), .val (.int kB.toInt32), .val (.int kB.toInt32), .val (.int (1 : Int32)), .val (.int v1), .val (.int kA.toInt32), .val (.int kC.toInt32), .val (.int v3), .unset, .unset, .unset, .unset] [(.int kC.toInt32)]))
          refine Go.st (fun _ => XS.istore X295.here C.hx rfl (hb C.hby at_212) rfl (l' := #[.val (.int v1), .val (.int v2), .val (.int v3), .val (.int k1), .val (.int k2), .val (.int k3), .val (.ref b219), .val (.int kA.toInt32), .val (.int kB.toInt32), .val (.int v2), .val (.int kB.toInt32), .val (.int kB.toInt32), .val (.int (1 : Int32)), .val (.int v1), .val (.int kA.toInt32), .val (.int kC.toInt32), .val (.int v3), .val (.int kC.toInt32), .unset, .unset, .unset]) rfl) ?_
          show Go p e below s n0 _ _ _ (T295.setTop (mkF m 214 #[.val (.int v1), .val (.int v2), .val (.int v3), .val (.int k1), .val (.int k2), .val (.int k3), .val (.ref b219), .val (.int kA.toInt32), .val (.int kB.toInt32), .val (.int v2), .val (.int kB.toInt32), .val (.int kB.toInt32), .val (.int (1 : Int32)), .val (.int v1), .val (.int kA.toInt32), .val (.int kC.toInt32), .val (.int v3), .val (.int kC.toInt32), .unset, .unset, .unset] []))
          refine Go.st (fun _ => XS.aload X295.here C.hx rfl (hb C.hby at_214) rfl rfl) ?_
          show Go p e below s n0 _ _ _ (T295.setTop (mkF m 216 #[.val (.int v1), .val (.int v2), .val (.int v3), .val (.int k1), .val (.int k2), .val (.int k3), .val (.ref b219), .val (.int kA.toInt32), .val (.int kB.toInt32), .val (.int v2), .val (.int kB.toInt32), .val (.int kB.toInt32), .val (.int (1 : Int32)), .val (.int v1), .val (.int kA.toInt32), .val (.int kC.toInt32), .val (.int v3), .val (.int kC.toInt32), .unset, .unset, .unset] [(.ref b219)]))
          refine Go.callV C X295 (W := 0) (argsL := []) (rest := []) (a := b219) (BB294).1 (wd 34 rfl) (wd 35 rfl) (wd 37 rfl) (wd 36 rfl) (wd 2 rfl) (wd 38 rfl) (by decide) rfl (con_take l Z a0 hw n0 h294 X295.size b219 a1_220 a2_220 a3_220 (bN5 4 kA kB kC) (bO4 4 kA kB kC) [v1, v2, v3] ((3 : Nat).toInt32) ((kC : Nat).toInt32) kC DD220 rfl lO4 (by rw [fb5]; decide) fv5 rfl (by rw [fb5]; omega) BB294) (by decide) (by decide) rfl (lenOf pd_6 rfl) (Nat.le_of_ble_eq_true rfl) rfl at_216 (by decide) (by decide) (fun T296 h296 v296 X296 hQ296 => ?_)
          obtain ⟨rfl, BA296⟩ := hQ296
          rw [tkV_hit (e := 0) fb5 fk2 (by omega) fe2]
          have BB296 : BQ Z h296 b219 a1_220 a2_220 a3_220 (bN6 4 kA kB kC) (bO4 4 kA kB kC) [v1, v2, v3] (3 : Nat).toInt32 (kA : Nat).toInt32 := by have u := BA296; rw [fk2] at u; rw [show bN6 4 kA kB kC = tkN (bN5 4 kA kB kC) (bO4 4 kA kB kC) kC from by unfold bN6 bK1 bK0; rw [fk0, fk1]]; exact u
          show Go p e below s n0 _ _ _ (T296.setTop (mkF m 219 #[.val (.int v1), .val (.int v2), .val (.int v3), .val (.int k1), .val (.int k2), .val (.int k3), .val (.ref b219), .val (.int kA.toInt32), .val (.int kB.toInt32), .val (.int v2), .val (.int kB.toInt32), .val (.int kB.toInt32), .val (.int (1 : Int32)), .val (.int v1), .val (.int kA.toInt32), .val (.int kC.toInt32), .val (.int v3), .val (.int kC.toInt32), .unset, .unset, .unset] [(.int v1)]))
          refine Go.st (fun _ => XS.istore X296.here C.hx rfl (hb C.hby at_219) rfl (l' := #[.val (.int v1), .val (.int v2), .val (.int v3), .val (.int k1), .val (.int k2), .val (.int k3), .val (.ref b219), .val (.int kA.toInt32), .val (.int kB.toInt32), .val (.int v2), .val (.int kB.toInt32), .val (.int kB.toInt32), .val (.int (1 : Int32)), .val (.int v1), .val (.int kA.toInt32), .val (.int kC.toInt32), .val (.int v3), .val (.int kC.toInt32), .val (.int v1), .unset, .unset]) rfl) ?_
          show Go p e below s n0 _ _ _ (T296.setTop (mkF m 221 #[.val (.int v1), .val (.int v2), .val (.int v3), .val (.int k1), .val (.int k2), .val (.int k3), .val (.ref b219), .val (.int kA.toInt32), .val (.int kB.toInt32), .val (.int v2), .val (.int kB.toInt32), .val (.int kB.toInt32), .val (.int (1 : Int32)), .val (.int v1), .val (.int kA.toInt32), .val (.int kC.toInt32), .val (.int v3), .val (.int kC.toInt32), .val (.int v1), .unset, .unset] []))
          refine Go.st (fun _ => XS.aload X296.here C.hx rfl (hb C.hby at_221) rfl rfl) ?_
          show Go p e below s n0 _ _ _ (T296.setTop (mkF m 223 #[.val (.int v1), .val (.int v2), .val (.int v3), .val (.int k1), .val (.int k2), .val (.int k3), .val (.ref b219), .val (.int kA.toInt32), .val (.int kB.toInt32), .val (.int v2), .val (.int kB.toInt32), .val (.int kB.toInt32), .val (.int (1 : Int32)), .val (.int v1), .val (.int kA.toInt32), .val (.int kC.toInt32), .val (.int v3), .val (.int kC.toInt32), .val (.int v1), .unset, .unset] [(.ref b219)]))
          refine Go.callV C X296 (W := 0) (argsL := []) (rest := []) (a := b219) (BB296).1 (wd 39 rfl) (wd 40 rfl) (wd 42 rfl) (wd 41 rfl) (wd 2 rfl) (wd 43 rfl) (by decide) rfl (con_key l Z a0 hw n0 h296 X296.size b219 a1_220 a2_220 a3_220 (bN6 4 kA kB kC) (bO4 4 kA kB kC) [v1, v2, v3] _ _ BB296) (by decide) (by decide) rfl (lenOf pd_7 rfl) (Nat.le_of_ble_eq_true rfl) rfl at_223 (by decide) (by decide) (fun T297 h297 v297 X297 hQ297 => ?_)
          obtain ⟨rfl, hh297⟩ := hQ297
          rw [hh297] at X297
          show Go p e below s n0 _ _ _ (T297.setTop (mkF m 226 #[.val (.int v1), .val (.int v2), .val (.int v3), .val (.int k1), .val (.int k2), .val (.int k3), .val (.ref b219), .val (.int kA.toInt32), .val (.int kB.toInt32), .val (.int v2), .val (.int kB.toInt32), .val (.int kB.toInt32), .val (.int (1 : Int32)), .val (.int v1), .val (.int kA.toInt32), .val (.int kC.toInt32), .val (.int v3), .val (.int kC.toInt32), .val (.int v1), .unset, .unset] [(.int kA.toInt32)]))
          refine Go.st (fun _ => XS.istore X297.here C.hx rfl (hb C.hby at_226) rfl (l' := #[.val (.int v1), .val (.int v2), .val (.int v3), .val (.int k1), .val (.int k2), .val (.int k3), .val (.ref b219), .val (.int kA.toInt32), .val (.int kB.toInt32), .val (.int v2), .val (.int kB.toInt32), .val (.int kB.toInt32), .val (.int (1 : Int32)), .val (.int v1), .val (.int kA.toInt32), .val (.int kC.toInt32), .val (.int v3), .val (.int kC.toInt32), .val (.int v1), .val (.int kA.toInt32), .unset]) rfl) ?_
          show Go p e below s n0 _ _ _ (T297.setTop (mkF m 228 #[.val (.int v1), .val (.int v2), .val (.int v3), .val (.int k1), .val (.int k2), .val (.int k3), .val (.ref b219), .val (.int kA.toInt32), .val (.int kB.toInt32), .val (.int v2), .val (.int kB.toInt32), .val (.int kB.toInt32), .val (.int (1 : Int32)), .val (.int v1), .val (.int kA.toInt32), .val (.int kC.toInt32), .val (.int v3), .val (.int kC.toInt32), .val (.int v1), .val (.int kA.toInt32), .unset] []))
          refine Go.st (fun _ => XS.aload X297.here C.hx rfl (hb C.hby at_228) rfl rfl) ?_
          show Go p e below s n0 _ _ _ (T297.setTop (mkF m 230 #[.val (.int v1), .val (.int v2), .val (.int v3), .val (.int k1), .val (.int k2), .val (.int k3), .val (.ref b219), .val (.int kA.toInt32), .val (.int kB.toInt32), .val (.int v2), .val (.int kB.toInt32), .val (.int kB.toInt32), .val (.int (1 : Int32)), .val (.int v1), .val (.int kA.toInt32), .val (.int kC.toInt32), .val (.int v3), .val (.int kC.toInt32), .val (.int v1), .val (.int kA.toInt32), .unset] [(.ref b219)]))
          refine Go.callV C X297 (W := 0) (argsL := []) (rest := []) (a := b219) (BB296).1 (wd 34 rfl) (wd 35 rfl) (wd 37 rfl) (wd 36 rfl) (wd 2 rfl) (wd 38 rfl) (by decide) rfl (con_take l Z a0 hw n0 h296 X297.size b219 a1_220 a2_220 a3_220 (bN6 4 kA kB kC) (bO4 4 kA kB kC) [v1, v2, v3] ((3 : Nat).toInt32) ((kA : Nat).toInt32) kA DD220 rfl lO4 (by rw [fb6]; decide) fv6 rfl (by rw [fb6]; omega) BB296) (by decide) (by decide) rfl (lenOf pd_6 rfl) (Nat.le_of_ble_eq_true rfl) rfl at_230 (by decide) (by decide) (fun T298 h298 v298 X298 hQ298 => ?_)
          obtain ⟨rfl, BA298⟩ := hQ298
          rw [tkV_end fb6 fk3]
          have BB298 : BQ Z h298 b219 a1_220 a2_220 a3_220 (tkN (bN6 4 kA kB kC) (bO4 4 kA kB kC) kA) (bO4 4 kA kB kC) [v1, v2, v3] (3 : Nat).toInt32 (4 : Nat).toInt32 := by have u := BA298; rw [fk3] at u; exact u
          show Go p e below s n0 _ _ _ (T298.setTop (mkF m 233 #[.val (.int v1), .val (.int v2), .val (.int v3), .val (.int k1), .val (.int k2), .val (.int k3), .val (.ref b219), .val (.int kA.toInt32), .val (.int kB.toInt32), .val (.int v2), .val (.int kB.toInt32), .val (.int kB.toInt32), .val (.int (1 : Int32)), .val (.int v1), .val (.int kA.toInt32), .val (.int kC.toInt32), .val (.int v3), .val (.int kC.toInt32), .val (.int v1), .val (.int kA.toInt32), .unset] [(.int (-1 : Int32))]))
          refine Go.st (fun _ => XS.istore X298.here C.hx rfl (hb C.hby at_233) rfl (l' := #[.val (.int v1), .val (.int v2), .val (.int v3), .val (.int k1), .val (.int k2), .val (.int k3), .val (.ref b219), .val (.int kA.toInt32), .val (.int kB.toInt32), .val (.int v2), .val (.int kB.toInt32), .val (.int kB.toInt32), .val (.int (1 : Int32)), .val (.int v1), .val (.int kA.toInt32), .val (.int kC.toInt32), .val (.int v3), .val (.int kC.toInt32), .val (.int v1), .val (.int kA.toInt32), .val (.int (-1 : Int32))]) rfl) ?_
          show Go p e below s n0 _ _ _ (T298.setTop (mkF m 235 #[.val (.int v1), .val (.int v2), .val (.int v3), .val (.int k1), .val (.int k2), .val (.int k3), .val (.ref b219), .val (.int kA.toInt32), .val (.int kB.toInt32), .val (.int v2), .val (.int kB.toInt32), .val (.int kB.toInt32), .val (.int (1 : Int32)), .val (.int v1), .val (.int kA.toInt32), .val (.int kC.toInt32), .val (.int v3), .val (.int kC.toInt32), .val (.int v1), .val (.int kA.toInt32), .val (.int (-1 : Int32))] []))
          refine Go.st (fun _ => XS.iload X298.here C.hx rfl (hb C.hby at_235) rfl) ?_
          show Go p e below s n0 _ _ _ (T298.setTop (mkF m 237 #[.val (.int v1), .val (.int v2), .val (.int v3), .val (.int k1), .val (.int k2), .val (.int k3), .val (.ref b219), .val (.int kA.toInt32), .val (.int kB.toInt32), .val (.int v2), .val (.int kB.toInt32), .val (.int kB.toInt32), .val (.int (1 : Int32)), .val (.int v1), .val (.int kA.toInt32), .val (.int kC.toInt32), .val (.int v3), .val (.int kC.toInt32), .val (.int v1), .val (.int kA.toInt32), .val (.int (-1 : Int32))] [(.int (1 : Int32))]))
          refine Go.if_eq C X298 (pc' := 271) at_237 (by decide) (by decide) (fun hc => absurd hc (by decide)) (fun _ => ?_)
          show Go p e below s n0 _ _ _ (T298.setTop (mkF m 240 #[.val (.int v1), .val (.int v2), .val (.int v3), .val (.int k1), .val (.int k2), .val (.int k3), .val (.ref b219), .val (.int kA.toInt32), .val (.int kB.toInt32), .val (.int v2), .val (.int kB.toInt32), .val (.int kB.toInt32), .val (.int (1 : Int32)), .val (.int v1), .val (.int kA.toInt32), .val (.int kC.toInt32), .val (.int v3), .val (.int kC.toInt32), .val (.int v1), .val (.int kA.toInt32), .val (.int (-1 : Int32))] []))
          refine Go.st (fun _ => XS.iload X298.here C.hx rfl (hb C.hby at_240) rfl) ?_
          show Go p e below s n0 _ _ _ (T298.setTop (mkF m 242 #[.val (.int v1), .val (.int v2), .val (.int v3), .val (.int k1), .val (.int k2), .val (.int k3), .val (.ref b219), .val (.int kA.toInt32), .val (.int kB.toInt32), .val (.int v2), .val (.int kB.toInt32), .val (.int kB.toInt32), .val (.int (1 : Int32)), .val (.int v1), .val (.int kA.toInt32), .val (.int kC.toInt32), .val (.int v3), .val (.int kC.toInt32), .val (.int v1), .val (.int kA.toInt32), .val (.int (-1 : Int32))] [(.int v3)]))
          refine Go.st (fun _ => XS.iload X298.here C.hx rfl (hb C.hby at_242) rfl) ?_
          show Go p e below s n0 _ _ _ (T298.setTop (mkF m 244 #[.val (.int v1), .val (.int v2), .val (.int v3), .val (.int k1), .val (.int k2), .val (.int k3), .val (.ref b219), .val (.int kA.toInt32), .val (.int kB.toInt32), .val (.int v2), .val (.int kB.toInt32), .val (.int kB.toInt32), .val (.int (1 : Int32)), .val (.int v1), .val (.int kA.toInt32), .val (.int kC.toInt32), .val (.int v3), .val (.int kC.toInt32), .val (.int v1), .val (.int kA.toInt32), .val (.int (-1 : Int32))] [(.int kC.toInt32), (.int v3)]))
          refine Go.st (fun _ => XS.iload X298.here C.hx rfl (hb C.hby at_244) rfl) ?_
          show Go p e below s n0 _ _ _ (T298.setTop (mkF m 246 #[.val (.int v1), .val (.int v2), .val (.int v3), .val (.int k1), .val (.int k2), .val (.int k3), .val (.ref b219), .val (.int kA.toInt32), .val (.int kB.toInt32), .val (.int v2), .val (.int kB.toInt32), .val (.int kB.toInt32), .val (.int (1 : Int32)), .val (.int v1), .val (.int kA.toInt32), .val (.int kC.toInt32), .val (.int v3), .val (.int kC.toInt32), .val (.int v1), .val (.int kA.toInt32), .val (.int (-1 : Int32))] [(.int v1), (.int kC.toInt32), (.int v3)]))
          refine Go.st (fun _ => XS.iload X298.here C.hx rfl (hb C.hby at_246) rfl) ?_
          show Go p e below s n0 _ _ _ (T298.setTop (mkF m 248 #[.val (.int v1), .val (.int v2), .val (.int v3), .val (.int k1), .val (.int k2), .val (.int k3), .val (.ref b219), .val (.int kA.toInt32), .val (.int kB.toInt32), .val (.int v2), .val (.int kB.toInt32), .val (.int kB.toInt32), .val (.int (1 : Int32)), .val (.int v1), .val (.int kA.toInt32), .val (.int kC.toInt32), .val (.int v3), .val (.int kC.toInt32), .val (.int v1), .val (.int kA.toInt32), .val (.int (-1 : Int32))] [(.int kA.toInt32), (.int v1), (.int kC.toInt32), (.int v3)]))
          refine Go.st (fun _ => XS.iload X298.here C.hx rfl (hb C.hby at_248) rfl) ?_
          show Go p e below s n0 _ _ _ (T298.setTop (mkF m 250 #[.val (.int v1), .val (.int v2), .val (.int v3), .val (.int k1), .val (.int k2), .val (.int k3), .val (.ref b219), .val (.int kA.toInt32), .val (.int kB.toInt32), .val (.int v2), .val (.int kB.toInt32), .val (.int kB.toInt32), .val (.int (1 : Int32)), .val (.int v1), .val (.int kA.toInt32), .val (.int kC.toInt32), .val (.int v3), .val (.int kC.toInt32), .val (.int v1), .val (.int kA.toInt32), .val (.int (-1 : Int32))] [(.int v1), (.int kA.toInt32), (.int v1), (.int kC.toInt32), (.int v3)]))
          refine Go.st (fun _ => XS.iload X298.here C.hx rfl (hb C.hby at_250) rfl) ?_
          show Go p e below s n0 _ _ _ (T298.setTop (mkF m 252 #[.val (.int v1), .val (.int v2), .val (.int v3), .val (.int k1), .val (.int k2), .val (.int k3), .val (.ref b219), .val (.int kA.toInt32), .val (.int kB.toInt32), .val (.int v2), .val (.int kB.toInt32), .val (.int kB.toInt32), .val (.int (1 : Int32)), .val (.int v1), .val (.int kA.toInt32), .val (.int kC.toInt32), .val (.int v3), .val (.int kC.toInt32), .val (.int v1), .val (.int kA.toInt32), .val (.int (-1 : Int32))] [(.int kA.toInt32), (.int v1), (.int kA.toInt32), (.int v1), (.int kC.toInt32), (.int v3)]))
          refine Go.st (fun _ => XS.iloadN X298.here C.hx rfl (hb C.hby at_252) rfl) ?_
          show Go p e below s n0 _ _ _ (T298.setTop (mkF m 253 #[.val (.int v1), .val (.int v2), .val (.int v3), .val (.int k1), .val (.int k2), .val (.int k3), .val (.ref b219), .val (.int kA.toInt32), .val (.int kB.toInt32), .val (.int v2), .val (.int kB.toInt32), .val (.int kB.toInt32), .val (.int (1 : Int32)), .val (.int v1), .val (.int kA.toInt32), .val (.int kC.toInt32), .val (.int v3), .val (.int kC.toInt32), .val (.int v1), .val (.int kA.toInt32), .val (.int (-1 : Int32))] [(.int v3), (.int kA.toInt32), (.int v1), (.int kA.toInt32), (.int v1), (.int kC.toInt32), (.int v3)]))
          refine Go.st (fun _ => XS.iload X298.here C.hx rfl (hb C.hby at_253) rfl) ?_
          show Go p e below s n0 _ _ _ (T298.setTop (mkF m 255 #[.val (.int v1), .val (.int v2), .val (.int v3), .val (.int k1), .val (.int k2), .val (.int k3), .val (.ref b219), .val (.int kA.toInt32), .val (.int kB.toInt32), .val (.int v2), .val (.int kB.toInt32), .val (.int kB.toInt32), .val (.int (1 : Int32)), .val (.int v1), .val (.int kA.toInt32), .val (.int kC.toInt32), .val (.int v3), .val (.int kC.toInt32), .val (.int v1), .val (.int kA.toInt32), .val (.int (-1 : Int32))] [(.int kC.toInt32), (.int v3), (.int kA.toInt32), (.int v1), (.int kA.toInt32), (.int v1), (.int kC.toInt32), (.int v3)]))
          refine Go.callS C X298 (W := 0) (argsL := [(.int v3), (.int kC.toInt32), (.int v1), (.int kA.toInt32), (.int v1), (.int kA.toInt32), (.int v3), (.int kC.toInt32)]) (rest := []) (wd 48 rfl) (wd 49 rfl) (wd 50 rfl) (wd 51 rfl) (by decide) (con_pair l Z a0 hw n0 h298 X298.size v3 kC.toInt32 v1 kA.toInt32 v1 kA.toInt32 v3 kC.toInt32) (by decide) (by decide) rfl (lenOf pd_9 rfl) (Nat.le_of_ble_eq_true rfl) rfl at_255 (by decide) (by decide) (fun T300 h300 v300 X300 hQ300 => ?_)
          obtain ⟨rfl, hh300⟩ := hQ300
          rw [hh300] at X300
          rw [show pairF v3 kC.toInt32 v1 kA.toInt32 v1 kA.toInt32 v3 kC.toInt32 = 1 from by exact pair_N hA4 hC4 hRC rfl]
          show Go p e below s n0 _ _ _ (T300.setTop (mkF m 258 #[.val (.int v1), .val (.int v2), .val (.int v3), .val (.int k1), .val (.int k2), .val (.int k3), .val (.ref b219), .val (.int kA.toInt32), .val (.int kB.toInt32), .val (.int v2), .val (.int kB.toInt32), .val (.int kB.toInt32), .val (.int (1 : Int32)), .val (.int v1), .val (.int kA.toInt32), .val (.int kC.toInt32), .val (.int v3), .val (.int kC.toInt32), .val (.int v1), .val (.int kA.toInt32), .val (.int (-1 : Int32))] [(.int (1 : Int32))]))
          refine Go.if_eq C X300 (pc' := 271) at_258 (by decide) (by decide) (fun hc => absurd hc (by decide)) (fun _ => ?_)
          show Go p e below s n0 _ _ _ (T300.setTop (mkF m 261 #[.val (.int v1), .val (.int v2), .val (.int v3), .val (.int k1), .val (.int k2), .val (.int k3), .val (.ref b219), .val (.int kA.toInt32), .val (.int kB.toInt32), .val (.int v2), .val (.int kB.toInt32), .val (.int kB.toInt32), .val (.int (1 : Int32)), .val (.int v1), .val (.int kA.toInt32), .val (.int kC.toInt32), .val (.int v3), .val (.int kC.toInt32), .val (.int v1), .val (.int kA.toInt32), .val (.int (-1 : Int32))] []))
          refine Go.st (fun _ => XS.iload X300.here C.hx rfl (hb C.hby at_261) rfl) ?_
          show Go p e below s n0 _ _ _ (T300.setTop (mkF m 263 #[.val (.int v1), .val (.int v2), .val (.int v3), .val (.int k1), .val (.int k2), .val (.int k3), .val (.ref b219), .val (.int kA.toInt32), .val (.int kB.toInt32), .val (.int v2), .val (.int kB.toInt32), .val (.int kB.toInt32), .val (.int (1 : Int32)), .val (.int v1), .val (.int kA.toInt32), .val (.int kC.toInt32), .val (.int v3), .val (.int kC.toInt32), .val (.int v1), .val (.int kA.toInt32), .val (.int (-1 : Int32))] [(.int (-1 : Int32))]))
          refine Go.st (fun _ => XS.iconst X300.here C.hx rfl (hb C.hby at_263)) ?_
          show Go p e below s n0 _ _ _ (T300.setTop (mkF m 264 #[.val (.int v1), .val (.int v2), .val (.int v3), .val (.int k1), .val (.int k2), .val (.int k3), .val (.ref b219), .val (.int kA.toInt32), .val (.int kB.toInt32), .val (.int v2), .val (.int kB.toInt32), .val (.int kB.toInt32), .val (.int (1 : Int32)), .val (.int v1), .val (.int kA.toInt32), .val (.int kC.toInt32), .val (.int v3), .val (.int kC.toInt32), .val (.int v1), .val (.int kA.toInt32), .val (.int (-1 : Int32))] [(.int (-1 : Int32)), (.int (-1 : Int32))]))
          refine Go.icmp_ne C X300 (pc' := 271) at_264 (by decide) (by decide) (fun hc => absurd hc (by decide)) (fun _ => ?_)
          show Go p e below s n0 _ _ _ (T300.setTop (mkF m 267 #[.val (.int v1), .val (.int v2), .val (.int v3), .val (.int k1), .val (.int k2), .val (.int k3), .val (.ref b219), .val (.int kA.toInt32), .val (.int kB.toInt32), .val (.int v2), .val (.int kB.toInt32), .val (.int kB.toInt32), .val (.int (1 : Int32)), .val (.int v1), .val (.int kA.toInt32), .val (.int kC.toInt32), .val (.int v3), .val (.int kC.toInt32), .val (.int v1), .val (.int kA.toInt32), .val (.int (-1 : Int32))] []))
          refine Go.st (fun _ => XS.iconst X300.here C.hx rfl (hb C.hby at_267)) ?_
          show Go p e below s n0 _ _ _ (T300.setTop (mkF m 268 #[.val (.int v1), .val (.int v2), .val (.int v3), .val (.int k1), .val (.int k2), .val (.int k3), .val (.ref b219), .val (.int kA.toInt32), .val (.int kB.toInt32), .val (.int v2), .val (.int kB.toInt32), .val (.int kB.toInt32), .val (.int (1 : Int32)), .val (.int v1), .val (.int kA.toInt32), .val (.int kC.toInt32), .val (.int v3), .val (.int kC.toInt32), .val (.int v1), .val (.int kA.toInt32), .val (.int (-1 : Int32))] [(.int (1 : Int32))]))
          refine Go.st (fun _ => XS.goto X300.here C.hx rfl (pc0 := 268) (pc' := 272) rfl (hb C.hby at_268) (by decide) (by decide)) ?_
          show Go p e below s n0 _ _ _ (T300.setTop (mkF m 272 #[.val (.int v1), .val (.int v2), .val (.int v3), .val (.int k1), .val (.int k2), .val (.int k3), .val (.ref b219), .val (.int kA.toInt32), .val (.int kB.toInt32), .val (.int v2), .val (.int kB.toInt32), .val (.int kB.toInt32), .val (.int (1 : Int32)), .val (.int v1), .val (.int kA.toInt32), .val (.int kC.toInt32), .val (.int v3), .val (.int kC.toInt32), .val (.int v1), .val (.int kA.toInt32), .val (.int (-1 : Int32))] [(.int (1 : Int32))]))
          exact Go.retZ C X300 (by decide) at_272 rfl (by decide) (by decide)
    · show Go p e below s n0 _ _ _ (T252.setTop (mkF m 98 #[.val (.int v1), .val (.int v2), .val (.int v3), .val (.int k1), .val (.int k2), .val (.int k3), .val (.ref b219), .val (.int kA.toInt32), .val (.int kB.toInt32), .val (.int v2), .val (.int kB.toInt32), .val (.int kB.toInt32), .unset, .unset, .unset, .unset, .unset, .unset, .unset, .unset, .unset] []))
      refine Go.st (fun _ => XS.iload X252.here C.hx rfl (hb C.hby at_98) rfl) ?_
      show Go p e below s n0 _ _ _ (T252.setTop (mkF m 100 #[.val (.int v1), .val (.int v2), .val (.int v3), .val (.int k1), .val (.int k2), .val (.int k3), .val (.ref b219), .val (.int kA.toInt32), .val (.int kB.toInt32), .val (.int v2), .val (.int kB.toInt32), .val (.int kB.toInt32), .unset, .unset, .unset, .unset, .unset, .unset, .unset, .unset, .unset] [(.int v2)]))
      refine Go.st (fun _ => XS.iloadN X252.here C.hx rfl (hb C.hby at_100) rfl) ?_
      show Go p e below s n0 _ _ _ (T252.setTop (mkF m 101 #[.val (.int v1), .val (.int v2), .val (.int v3), .val (.int k1), .val (.int k2), .val (.int k3), .val (.ref b219), .val (.int kA.toInt32), .val (.int kB.toInt32), .val (.int v2), .val (.int kB.toInt32), .val (.int kB.toInt32), .unset, .unset, .unset, .unset, .unset, .unset, .unset, .unset, .unset] [(.int v2), (.int v2)]))
      refine Go.icmp_ne C X252 (pc' := 108) at_101 (by decide) (by decide) (fun hc => by first | exact absurd hc rfl | exact absurd rfl hc) (fun _ => ?_)
      show Go p e below s n0 _ _ _ (T252.setTop (mkF m 104 #[.val (.int v1), .val (.int v2), .val (.int v3), .val (.int k1), .val (.int k2), .val (.int k3), .val (.ref b219), .val (.int kA.toInt32), .val (.int kB.toInt32), .val (.int v2), .val (.int kB.toInt32), .val (.int kB.toInt32), .unset, .unset, .unset, .unset, .unset, .unset, .unset, .unset, .unset] []))
      refine Go.st (fun _ => XS.iconst X252.here C.hx rfl (hb C.hby at_104)) ?_
      show Go p e below s n0 _ _ _ (T252.setTop (mkF m 105 #[.val (.int v1), .val (.int v2), .val (.int v3), .val (.int k1), .val (.int k2), .val (.int k3), .val (.ref b219), .val (.int kA.toInt32), .val (.int kB.toInt32), .val (.int v2), .val (.int kB.toInt32), .val (.int kB.toInt32), .unset, .unset, .unset, .unset, .unset, .unset, .unset, .unset, .unset] [(.int (1 : Int32))]))
      refine Go.st (fun _ => XS.goto X252.here C.hx rfl (pc0 := 105) (pc' := 109) rfl (hb C.hby at_105) (by decide) (by decide)) ?_
      show Go p e below s n0 _ _ _ (T252.setTop (mkF m 109 #[.val (.int v1), .val (.int v2), .val (.int v3), .val (.int k1), .val (.int k2), .val (.int k3), .val (.ref b219), .val (.int kA.toInt32), .val (.int kB.toInt32), .val (.int v2), .val (.int kB.toInt32), .val (.int kB.toInt32), .unset, .unset, .unset, .unset, .unset, .unset, .unset, .unset, .unset] [(.int (1 : Int32))]))
      refine Go.st (fun _ => XS.istore X252.here C.hx rfl (hb C.hby at_109) rfl (l' := #[.val (.int v1), .val (.int v2), .val (.int v3), .val (.int k1), .val (.int k2), .val (.int k3), .val (.ref b219), .val (.int kA.toInt32), .val (.int kB.toInt32), .val (.int v2), .val (.int kB.toInt32), .val (.int kB.toInt32), .val (.int (1 : Int32)), .unset, .unset, .unset, .unset, .unset, .unset, .unset, .unset]) rfl) ?_
      show Go p e below s n0 _ _ _ (T252.setTop (mkF m 111 #[.val (.int v1), .val (.int v2), .val (.int v3), .val (.int k1), .val (.int k2), .val (.int k3), .val (.ref b219), .val (.int kA.toInt32), .val (.int kB.toInt32), .val (.int v2), .val (.int kB.toInt32), .val (.int kB.toInt32), .val (.int (1 : Int32)), .unset, .unset, .unset, .unset, .unset, .unset, .unset, .unset] []))
      refine Go.st (fun _ => XS.iloadN X252.here C.hx rfl (hb C.hby at_111) rfl) ?_
      show Go p e below s n0 _ _ _ (T252.setTop (mkF m 112 #[.val (.int v1), .val (.int v2), .val (.int v3), .val (.int k1), .val (.int k2), .val (.int k3), .val (.ref b219), .val (.int kA.toInt32), .val (.int kB.toInt32), .val (.int v2), .val (.int kB.toInt32), .val (.int kB.toInt32), .val (.int (1 : Int32)), .unset, .unset, .unset, .unset, .unset, .unset, .unset, .unset] [(.int v1)]))
      refine Go.st (fun _ => XS.istore X252.here C.hx rfl (hb C.hby at_112) rfl (l' := #[.val (.int v1), .val (.int v2), .val (.int v3), .val (.int k1), .val (.int k2), .val (.int k3), .val (.ref b219), .val (.int kA.toInt32), .val (.int kB.toInt32), .val (.int v2), .val (.int kB.toInt32), .val (.int kB.toInt32), .val (.int (1 : Int32)), .val (.int v1), .unset, .unset, .unset, .unset, .unset, .unset, .unset]) rfl) ?_
      show Go p e below s n0 _ _ _ (T252.setTop (mkF m 114 #[.val (.int v1), .val (.int v2), .val (.int v3), .val (.int k1), .val (.int k2), .val (.int k3), .val (.ref b219), .val (.int kA.toInt32), .val (.int kB.toInt32), .val (.int v2), .val (.int kB.toInt32), .val (.int kB.toInt32), .val (.int (1 : Int32)), .val (.int v1), .unset, .unset, .unset, .unset, .unset, .unset, .unset] []))
      refine Go.st (fun _ => XS.iload X252.here C.hx rfl (hb C.hby at_114) rfl) ?_
      show Go p e below s n0 _ _ _ (T252.setTop (mkF m 116 #[.val (.int v1), .val (.int v2), .val (.int v3), .val (.int k1), .val (.int k2), .val (.int k3), .val (.ref b219), .val (.int kA.toInt32), .val (.int kB.toInt32), .val (.int v2), .val (.int kB.toInt32), .val (.int kB.toInt32), .val (.int (1 : Int32)), .val (.int v1), .unset, .unset, .unset, .unset, .unset, .unset, .unset] [(.int kA.toInt32)]))
      refine Go.st (fun _ => XS.istore X252.here C.hx rfl (hb C.hby at_116) rfl (l' := #[.val (.int v1), .val (.int v2), .val (.int v3), .val (.int k1), .val (.int k2), .val (.int k3), .val (.ref b219), .val (.int kA.toInt32), .val (.int kB.toInt32), .val (.int v2), .val (.int kB.toInt32), .val (.int kB.toInt32), .val (.int (1 : Int32)), .val (.int v1), .val (.int kA.toInt32), .unset, .unset, .unset, .unset, .unset, .unset]) rfl) ?_
      show Go p e below s n0 _ _ _ (T252.setTop (mkF m 118 #[.val (.int v1), .val (.int v2), .val (.int v3), .val (.int k1), .val (.int k2), .val (.int k3), .val (.ref b219), .val (.int kA.toInt32), .val (.int kB.toInt32), .val (.int v2), .val (.int kB.toInt32), .val (.int kB.toInt32), .val (.int (1 : Int32)), .val (.int v1), .val (.int kA.toInt32), .unset, .unset, .unset, .unset, .unset, .unset] []))
      refine Go.st (fun _ => XS.goto X252.here C.hx rfl (pc0 := 118) (pc' := 159) rfl (hb C.hby at_118) (by decide) (by decide)) ?_
      show Go p e below s n0 _ _ _ (T252.setTop (mkF m 159 #[.val (.int v1), .val (.int v2), .val (.int v3), .val (.int k1), .val (.int k2), .val (.int k3), .val (.ref b219), .val (.int kA.toInt32), .val (.int kB.toInt32), .val (.int v2), .val (.int kB.toInt32), .val (.int kB.toInt32), .val (.int (1 : Int32)), .val (.int v1), .val (.int kA.toInt32), .unset, .unset, .unset, .unset, .unset, .unset] []))
      refine Go.st (fun _ => XS.iload X252.here C.hx rfl (hb C.hby at_159) rfl) ?_
      show Go p e below s n0 _ _ _ (T252.setTop (mkF m 161 #[.val (.int v1), .val (.int v2), .val (.int v3), .val (.int k1), .val (.int k2), .val (.int k3), .val (.ref b219), .val (.int kA.toInt32), .val (.int kB.toInt32), .val (.int v2), .val (.int kB.toInt32), .val (.int kB.toInt32), .val (.int (1 : Int32)), .val (.int v1), .val (.int kA.toInt32), .unset, .unset, .unset, .unset, .unset, .unset] [(.int (1 : Int32))]))
      refine Go.if_eq C X252 (pc' := 175) at_161 (by decide) (by decide) (fun hc => absurd hc (by decide)) (fun _ => ?_)
      show Go p e below s n0 _ _ _ (T252.setTop (mkF m 164 #[.val (.int v1), .val (.int v2), .val (.int v3), .val (.int k1), .val (.int k2), .val (.int k3), .val (.ref b219), .val (.int kA.toInt32), .val (.int kB.toInt32), .val (.int v2), .val (.int kB.toInt32), .val (.int kB.toInt32), .val (.int (1 : Int32)), .val (.int v1), .val (.int kA.toInt32), .unset, .unset, .unset, .unset, .unset, .unset] []))
      refine Go.st (fun _ => XS.iload X252.here C.hx rfl (hb C.hby at_164) rfl) ?_
      show Go p e below s n0 _ _ _ (T252.setTop (mkF m 166 #[.val (.int v1), .val (.int v2), .val (.int v3), .val (.int k1), .val (.int k2), .val (.int k3), .val (.ref b219), .val (.int kA.toInt32), .val (.int kB.toInt32), .val (.int v2), .val (.int kB.toInt32), .val (.int kB.toInt32), .val (.int (1 : Int32)), .val (.int v1), .val (.int kA.toInt32), .unset, .unset, .unset, .unset, .unset, .unset] [(.int kB.toInt32)]))
      refine Go.st (fun _ => XS.iload X252.here C.hx rfl (hb C.hby at_166) rfl) ?_
      show Go p e below s n0 _ _ _ (T252.setTop (mkF m 168 #[.val (.int v1), .val (.int v2), .val (.int v3), .val (.int k1), .val (.int k2), .val (.int k3), .val (.ref b219), .val (.int kA.toInt32), .val (.int kB.toInt32), .val (.int v2), .val (.int kB.toInt32), .val (.int kB.toInt32), .val (.int (1 : Int32)), .val (.int v1), .val (.int kA.toInt32), .unset, .unset, .unset, .unset, .unset, .unset] [(.int kB.toInt32), (.int kB.toInt32)]))
      refine Go.icmp_ne C X252 (pc' := 175) at_168 (by decide) (by decide) (fun hc => by first | exact absurd hc rfl | exact absurd rfl hc) (fun _ => ?_)
      show Go p e below s n0 _ _ _ (T252.setTop (mkF m 171 #[.val (.int v1), .val (.int v2), .val (.int v3), .val (.int k1), .val (.int k2), .val (.int k3), .val (.ref b219), .val (.int kA.toInt32), .val (.int kB.toInt32), .val (.int v2), .val (.int kB.toInt32), .val (.int kB.toInt32), .val (.int (1 : Int32)), .val (.int v1), .val (.int kA.toInt32), .unset, .unset, .unset, .unset, .unset, .unset] []))
      refine Go.st (fun _ => XS.iconst X252.here C.hx rfl (hb C.hby at_171)) ?_
      show Go p e below s n0 _ _ _ (T252.setTop (mkF m 172 #[.val (.int v1), .val (.int v2), .val (.int v3), .val (.int k1), .val (.int k2), .val (.int k3), .val (.ref b219), .val (.int kA.toInt32), .val (.int kB.toInt32), .val (.int v2), .val (.int kB.toInt32), .val (.int kB.toInt32), .val (.int (1 : Int32)), .val (.int v1), .val (.int kA.toInt32), .unset, .unset, .unset, .unset, .unset, .unset] [(.int (1 : Int32))]))
      refine Go.st (fun _ => XS.goto X252.here C.hx rfl (pc0 := 172) (pc' := 176) rfl (hb C.hby at_172) (by decide) (by decide)) ?_
      show Go p e below s n0 _ _ _ (T252.setTop (mkF m 176 #[.val (.int v1), .val (.int v2), .val (.int v3), .val (.int k1), .val (.int k2), .val (.int k3), .val (.ref b219), .val (.int kA.toInt32), .val (.int kB.toInt32), .val (.int v2), .val (.int kB.toInt32), .val (.int kB.toInt32), .val (.int (1 : Int32)), .val (.int v1), .val (.int kA.toInt32), .unset, .unset, .unset, .unset, .unset, .unset] [(.int (1 : Int32))]))
      refine Go.st (fun _ => XS.istore X252.here C.hx rfl (hb C.hby at_176) rfl (l' := #[.val (.int v1), .val (.int v2), .val (.int v3), .val (.int k1), .val (.int k2), .val (.int k3), .val (.ref b219), .val (.int kA.toInt32), .val (.int kB.toInt32), .val (.int v2), .val (.int kB.toInt32), .val (.int kB.toInt32), .val (.int (1 : Int32)), .val (.int v1), .val (.int kA.toInt32), .unset, .unset, .unset, .unset, .unset, .unset]) rfl) ?_
      show Go p e below s n0 _ _ _ (T252.setTop (mkF m 178 #[.val (.int v1), .val (.int v2), .val (.int v3), .val (.int k1), .val (.int k2), .val (.int k3), .val (.ref b219), .val (.int kA.toInt32), .val (.int kB.toInt32), .val (.int v2), .val (.int kB.toInt32), .val (.int kB.toInt32), .val (.int (1 : Int32)), .val (.int v1), .val (.int kA.toInt32), .unset, .unset, .unset, .unset, .unset, .unset] []))
      refine Go.st (fun _ => XS.iload X252.here C.hx rfl (hb C.hby at_178) rfl) ?_
      show Go p e below s n0 _ _ _ (T252.setTop (mkF m 180 #[.val (.int v1), .val (.int v2), .val (.int v3), .val (.int k1), .val (.int k2), .val (.int k3), .val (.ref b219), .val (.int kA.toInt32), .val (.int kB.toInt32), .val (.int v2), .val (.int kB.toInt32), .val (.int kB.toInt32), .val (.int (1 : Int32)), .val (.int v1), .val (.int kA.toInt32), .unset, .unset, .unset, .unset, .unset, .unset] [(.int kB.toInt32)]))
      refine Go.st (fun _ => XS.iload X252.here C.hx rfl (hb C.hby at_180) rfl) ?_
      show Go p e below s n0 _ _ _ (T252.setTop (mkF m 182 #[.val (.int v1), .val (.int v2), .val (.int v3), .val (.int k1), .val (.int k2), .val (.int k3), .val (.ref b219), .val (.int kA.toInt32), .val (.int kB.toInt32), .val (.int v2), .val (.int kB.toInt32), .val (.int kB.toInt32), .val (.int (1 : Int32)), .val (.int v1), .val (.int kA.toInt32), .unset, .unset, .unset, .unset, .unset, .unset] [(.int k3), (.int kB.toInt32)]))
      refine Go.st (fun _ => XS.iconst X252.here C.hx rfl (hb C.hby at_182)) ?_
      show Go p e below s n0 _ _ _ (T252.setTop (mkF m 183 #[.val (.int v1), .val (.int v2), .val (.int v3), .val (.int k1), .val (.int k2), .val (.int k3), .val (.ref b219), .val (.int kA.toInt32), .val (.int kB.toInt32), .val (.int v2), .val (.int kB.toInt32), .val (.int kB.toInt32), .val (.int (1 : Int32)), .val (.int v1), .val (.int kA.toInt32), .unset, .unset, .unset, .unset, .unset, .unset] [(.int (3 : Int32)), (.int k3), (.int kB.toInt32)]))
      refine Go.st (fun _ => XS.iand X252.here C.hx rfl (hb C.hby at_183) rfl) ?_
      show Go p e below s n0 _ _ _ (T252.setTop (mkF m 184 #[.val (.int v1), .val (.int v2), .val (.int v3), .val (.int k1), .val (.int k2), .val (.int k3), .val (.ref b219), .val (.int kA.toInt32), .val (.int kB.toInt32), .val (.int v2), .val (.int kB.toInt32), .val (.int kB.toInt32), .val (.int (1 : Int32)), .val (.int v1), .val (.int kA.toInt32), .unset, .unset, .unset, .unset, .unset, .unset] [(.int (k3 &&& (3 : Int32))), (.int kB.toInt32)]))
      refine Go.st (fun _ => XS.iconst X252.here C.hx rfl (hb C.hby at_184)) ?_
      show Go p e below s n0 _ _ _ (T252.setTop (mkF m 185 #[.val (.int v1), .val (.int v2), .val (.int v3), .val (.int k1), .val (.int k2), .val (.int k3), .val (.ref b219), .val (.int kA.toInt32), .val (.int kB.toInt32), .val (.int v2), .val (.int kB.toInt32), .val (.int kB.toInt32), .val (.int (1 : Int32)), .val (.int v1), .val (.int kA.toInt32), .unset, .unset, .unset, .unset, .unset, .unset] [(.int (4 : Int32)), (.int (k3 &&& (3 : Int32))), (.int kB.toInt32)]))
      refine Go.st (fun _ => XS.iload X252.here C.hx rfl (hb C.hby at_185) rfl) ?_
      show Go p e below s n0 _ _ _ (T252.setTop (mkF m 187 #[.val (.int v1), .val (.int v2), .val (.int v3), .val (.int k1), .val (.int k2), .val (.int k3), .val (.ref b219), .val (.int kA.toInt32), .val (.int kB.toInt32), .val (.int v2), .val (.int kB.toInt32), .val (.int kB.toInt32), .val (.int (1 : Int32)), .val (.int v1), .val (.int kA.toInt32), .unset, .unset, .unset, .unset, .unset, .unset] [(.int kB.toInt32), (.int (4 : Int32)), (.int (k3 &&& (3 : Int32))), (.int kB.toInt32)]))
      refine Go.st (fun _ => XS.isub X252.here C.hx rfl (hb C.hby at_187) rfl) ?_
      show Go p e below s n0 _ _ _ (T252.setTop (mkF m 188 #[.val (.int v1), .val (.int v2), .val (.int v3), .val (.int k1), .val (.int k2), .val (.int k3), .val (.ref b219), .val (.int kA.toInt32), .val (.int kB.toInt32), .val (.int v2), .val (.int kB.toInt32), .val (.int kB.toInt32), .val (.int (1 : Int32)), .val (.int v1), .val (.int kA.toInt32), .unset, .unset, .unset, .unset, .unset, .unset] [(.int ((4 : Int32) - kB.toInt32)), (.int (k3 &&& (3 : Int32))), (.int kB.toInt32)]))
      refine Go.irem C X252 (sub4 hB4) at_188 ?_
      show Go p e below s n0 _ _ _ (T252.setTop (mkF m 189 #[.val (.int v1), .val (.int v2), .val (.int v3), .val (.int k1), .val (.int k2), .val (.int k3), .val (.ref b219), .val (.int kA.toInt32), .val (.int kB.toInt32), .val (.int v2), .val (.int kB.toInt32), .val (.int kB.toInt32), .val (.int (1 : Int32)), .val (.int v1), .val (.int kA.toInt32), .unset, .unset, .unset, .unset, .unset, .unset] [(.int ((k3 &&& (3 : Int32)) % ((4 : Int32) - kB.toInt32))), (.int kB.toInt32)]))
      refine Go.st (fun _ => XS.iadd X252.here C.hx rfl (hb C.hby at_189) rfl) ?_
      show Go p e below s n0 _ _ _ (T252.setTop (mkF m 190 #[.val (.int v1), .val (.int v2), .val (.int v3), .val (.int k1), .val (.int k2), .val (.int k3), .val (.ref b219), .val (.int kA.toInt32), .val (.int kB.toInt32), .val (.int v2), .val (.int kB.toInt32), .val (.int kB.toInt32), .val (.int (1 : Int32)), .val (.int v1), .val (.int kA.toInt32), .unset, .unset, .unset, .unset, .unset, .unset] [(.int (kB.toInt32 + ((k3 &&& (3 : Int32)) % ((4 : Int32) - kB.toInt32))))]))
      generalize hg_kc : (kB.toInt32 + ((k3 &&& (3 : Int32)) % ((4 : Int32) - kB.toInt32))) = kc
      refine Go.st (fun _ => XS.istore X252.here C.hx rfl (hb C.hby at_190) rfl (l' := #[.val (.int v1), .val (.int v2), .val (.int v3), .val (.int k1), .val (.int k2), .val (.int k3), .val (.ref b219), .val (.int kA.toInt32), .val (.int kB.toInt32), .val (.int v2), .val (.int kB.toInt32), .val (.int kB.toInt32), .val (.int (1 : Int32)), .val (.int v1), .val (.int kA.toInt32), .val (.int kc), .unset, .unset, .unset, .unset, .unset]) rfl) ?_
      obtain ⟨kC, hmC, hC4, rfl⟩ := kcOk hB4 hg_kc
      have hB := allB ⟨kA, hA4⟩ ⟨kB, hB4⟩ ⟨kC, hC4⟩ (by show (if kA < kB then kA else kB) ≤ kC; rw [if_neg hAB]; exact hmC)
      simp only [chkB, Bool.and_eq_true, decide_eq_true_eq] at hB
      obtain ⟨⟨⟨⟨⟨⟨⟨⟨⟨⟨fv4, fv5⟩, fv6⟩, fb4⟩, fb5⟩, fb6⟩, fk1⟩, fe1⟩, fk2⟩, fe2⟩, fk3⟩ := hB
      replace fv4 := vB_ok fv4
      replace fv5 := vB_ok fv5
      replace fv6 := vB_ok fv6
      have lO4 : (bO4 4 kA kB kC).length = 3 := by unfold bO4; rw [List.length_set]; exact lO2
      have rk : bRk kA kB = kA := by unfold bRk; rw [if_neg hAB]
      have re : bRe kA kB = 0 := by unfold bRe; rw [if_neg hAB]
      rw [rk] at fk1 fe1 fk2 fe2
      rw [re] at fe1 fe2
      by_cases hRC : kA < kC
      · rw [if_pos hRC] at fk1 fe1 fk2 fe2
        rw [if_pos hRC] at fe1 fe2
        unfold bK2 bK1 bK0 at fk3
        unfold bK2 bK1 bK0 at fk2
        unfold bK1 bK0 at fk1
        rw [fk0] at fk1 fk2 fk3
        rw [fk1] at fk2 fk3
        rw [fk2] at fk3
        show Go p e below s n0 _ _ _ (T252.setTop (mkF m 192 #[.val (.int v1), .val (.int v2), .val (.int v3), .val (.int k1), .val (.int k2), .val (.int k3), .val (.ref b219), .val (.int kA.toInt32), .val (.int kB.toInt32), .val (.int v2), .val (.int kB.toInt32), .val (.int kB.toInt32), .val (.int (1 : Int32)), .val (.int v1), .val (.int kA.toInt32), .val (.int kC.toInt32), .unset, .unset, .unset, .unset, .unset] []))
        refine Go.st (fun _ => XS.aload X252.here C.hx rfl (hb C.hby at_192) rfl rfl) ?_
        show Go p e below s n0 _ _ _ (T252.setTop (mkF m 194 #[.val (.int v1), .val (.int v2), .val (.int v3), .val (.int k1), .val (.int k2), .val (.int k3), .val (.ref b219), .val (.int kA.toInt32), .val (.int kB.toInt32), .val (.int v2), .val (.int kB.toInt32), .val (.int kB.toInt32), .val (.int (1 : Int32)), .val (.int v1), .val (.int kA.toInt32), .val (.int kC.toInt32), .unset, .unset, .unset, .unset, .unset] [(.ref b219)]))
        refine Go.st (fun _ => XS.iloadN X252.here C.hx rfl (hb C.hby at_194) rfl) ?_
        show Go p e below s n0 _ _ _ (T252.setTop (mkF m 195 #[.val (.int v1), .val (.int v2), .val (.int v3), .val (.int k1), .val (.int k2), .val (.int k3), .val (.ref b219), .val (.int kA.toInt32), .val (.int kB.toInt32), .val (.int v2), .val (.int kB.toInt32), .val (.int kB.toInt32), .val (.int (1 : Int32)), .val (.int v1), .val (.int kA.toInt32), .val (.int kC.toInt32), .unset, .unset, .unset, .unset, .unset] [(.int v3), (.ref b219)]))
        refine Go.st (fun _ => XS.iload X252.here C.hx rfl (hb C.hby at_195) rfl) ?_
        show Go p e below s n0 _ _ _ (T252.setTop (mkF m 197 #[.val (.int v1), .val (.int v2), .val (.int v3), .val (.int k1), .val (.int k2), .val (.int k3), .val (.ref b219), .val (.int kA.toInt32), .val (.int kB.toInt32), .val (.int v2), .val (.int kB.toInt32), .val (.int kB.toInt32), .val (.int (1 : Int32)), .val (.int v1), .val (.int kA.toInt32), .val (.int kC.toInt32), .unset, .unset, .unset, .unset, .unset] [(.int kC.toInt32), (.int v3), (.ref b219)]))
        refine Go.callV C X252 (W := 0) (argsL := [(.int v3), (.int kC.toInt32)]) (rest := []) (a := b219) (BB250).1 (wd 29 rfl) (wd 30 rfl) (wd 32 rfl) (wd 31 rfl) (wd 2 rfl) (wd 33 rfl) (by decide) rfl (con_put l Z a0 hw n0 h250 X252.size b219 a1_220 a2_220 a3_220 (bN3 4 kA kB) (bO2 4 kA kB) [v1, v2, 0] 2 ((kB : Nat).toInt32) v3 kC.toInt32 kC DD220 (by decide) rfl lO2 rfl (by rw [fa3]; exact hC4) (by rw [fa3]; decide) BB250) (by decide) (by decide) rfl (lenOf pd_5 rfl) (Nat.le_of_ble_eq_true rfl) rfl at_197 (by decide) (by decide) (fun T306 h306 v306 X306 hQ306 => ?_)
        obtain ⟨rfl, BA306⟩ := hQ306
        have BB306 : BQ Z h306 b219 a1_220 a2_220 a3_220 (bN4 4 kA kB kC) (bO4 4 kA kB kC) [v1, v2, v3] (3 : Nat).toInt32 (kB : Nat).toInt32 := BA306
        show Go p e below s n0 _ _ _ (T306.setTop (mkF m 200 #[.val (.int v1), .val (.int v2), .val (.int v3), .val (.int k1), .val (.int k2), .val (.int k3), .val (.ref b219), .val (.int kA.toInt32), .val (.int kB.toInt32), .val (.int v2), .val (.int kB.toInt32), .val (.int kB.toInt32), .val (.int (1 : Int32)), .val (.int v1), .val (.int kA.toInt32), .val (.int kC.toInt32), .unset, .unset, .unset, .unset, .unset] []))
        refine Go.st (fun _ => XS.aload X306.here C.hx rfl (hb C.hby at_200) rfl rfl) ?_
        show Go p e below s n0 _ _ _ (T306.setTop (mkF m 202 #[.val (.int v1), .val (.int v2), .val (.int v3), .val (.int k1), .val (.int k2), .val (.int k3), .val (.ref b219), .val (.int kA.toInt32), .val (.int kB.toInt32), .val (.int v2), .val (.int kB.toInt32), .val (.int kB.toInt32), .val (.int (1 : Int32)), .val (.int v1), .val (.int kA.toInt32), .val (.int kC.toInt32), .unset, .unset, .unset, .unset, .unset] [(.ref b219)]))
        refine Go.callV C X306 (W := 0) (argsL := []) (rest := []) (a := b219) (BB306).1 (wd 34 rfl) (wd 35 rfl) (wd 37 rfl) (wd 36 rfl) (wd 2 rfl) (wd 38 rfl) (by decide) rfl (con_take l Z a0 hw n0 h306 X306.size b219 a1_220 a2_220 a3_220 (bN4 4 kA kB kC) (bO4 4 kA kB kC) [v1, v2, v3] ((3 : Nat).toInt32) ((kB : Nat).toInt32) kB DD220 rfl lO4 (by rw [fb4]; decide) fv4 rfl (by rw [fb4]; omega) BB306) (by decide) (by decide) rfl (lenOf pd_6 rfl) (Nat.le_of_ble_eq_true rfl) rfl at_202 (by decide) (by decide) (fun T307 h307 v307 X307 hQ307 => ?_)
        obtain ⟨rfl, BA307⟩ := hQ307
        rw [tkV_hit (e := 0) fb4 fk1 (by omega) fe1]
        have BB307 : BQ Z h307 b219 a1_220 a2_220 a3_220 (bN5 4 kA kB kC) (bO4 4 kA kB kC) [v1, v2, v3] (3 : Nat).toInt32 (kA : Nat).toInt32 := by have u := BA307; rw [fk1] at u; rw [show bN5 4 kA kB kC = tkN (bN4 4 kA kB kC) (bO4 4 kA kB kC) kB from by unfold bN5 bK0; rw [fk0]]; exact u
        show Go p e below s n0 _ _ _ (T307.setTop (mkF m 205 #[.val (.int v1), .val (.int v2), .val (.int v3), .val (.int k1), .val (.int k2), .val (.int k3), .val (.ref b219), .val (.int kA.toInt32), .val (.int kB.toInt32), .val (.int v2), .val (.int kB.toInt32), .val (.int kB.toInt32), .val (.int (1 : Int32)), .val (.int v1), .val (.int kA.toInt32), .val (.int kC.toInt32), .unset, .unset, .unset, .unset, .unset] [(.int v1)]))
        refine Go.st (fun _ => XS.istore X307.here C.hx rfl (hb C.hby at_205) rfl (l' := #[.val (.int v1), .val (.int v2), .val (.int v3), .val (.int k1), .val (.int k2), .val (.int k3), .val (.ref b219), .val (.int kA.toInt32), .val (.int kB.toInt32), .val (.int v2), .val (.int kB.toInt32), .val (.int kB.toInt32), .val (.int (1 : Int32)), .val (.int v1), .val (.int kA.toInt32), .val (.int kC.toInt32), .val (.int v1), .unset, .unset, .unset, .unset]) rfl) ?_
        show Go p e below s n0 _ _ _ (T307.setTop (mkF m 207 #[.val (.int v1), .val (.int v2), .val (.int v3), .val (.int k1), .val (.int k2), .val (.int k3), .val (.ref b219), .val (.int kA.toInt32), .val (.int kB.toInt32), .val (.int v2), .val (.int kB.toInt32), .val (.int kB.toInt32), .val (.int (1 : Int32)), .val (.int v1), .val (.int kA.toInt32), .val (.int kC.toInt32), .val (.int v1), .unset, .unset, .unset, .unset] []))
        refine Go.st (fun _ => XS.aload X307.here C.hx rfl (hb C.hby at_207) rfl rfl) ?_
        show Go p e below s n0 _ _ _ (T307.setTop (mkF m 209 #[.val (.int v1), .val (.int v2), .val (.int v3), .val (.int k1), .val (.int k2), .val (.int k3), .val (.ref b219), .val (.int kA.toInt32), .val (.int kB.toInt32), .val (.int v2), .val (.int kB.toInt32), .val (.int kB.toInt32), .val (.int (1 : Int32)), .val (.int v1), .val (.int kA.toInt32), .val (.int kC.toInt32), .val (.int v1), .unset, .unset, .unset, .unset] [(.ref b219)]))
        refine Go.callV C X307 (W := 0) (argsL := []) (rest := []) (a := b219) (BB307).1 (wd 39 rfl) (wd 40 rfl) (wd 42 rfl) (wd 41 rfl) (wd 2 rfl) (wd 43 rfl) (by decide) rfl (con_key l Z a0 hw n0 h307 X307.size b219 a1_220 a2_220 a3_220 (bN5 4 kA kB kC) (bO4 4 kA kB kC) [v1, v2, v3] _ _ BB307) (by decide) (by decide) rfl (lenOf pd_7 rfl) (Nat.le_of_ble_eq_true rfl) rfl at_209 (by decide) (by decide) (fun T308 h308 v308 X308 hQ308 => ?_)
        obtain ⟨rfl, hh308⟩ := hQ308
        rw [hh308] at X308
        show Go p e below s n0 _ _ _ (T308.setTop (mkF m 212 #[.val (.int v1), .val (.int v2), .val (.int v3), .val (.int k1), .val (.int k2), .val (.int k3), .val (.ref b219), .val (.int kA.toInt32), .val (.int kB.toInt32), .val (.int v2), .val (.int kB.toInt32), .val (.int kB.toInt32), .val (.int (1 : Int32)), .val (.int v1), .val (.int kA.toInt32), .val (.int kC.toInt32), .val (.int v1), .unset, .unset, .unset, .unset] [(.int kA.toInt32)]))
        refine Go.st (fun _ => XS.istore X308.here C.hx rfl (hb C.hby at_212) rfl (l' := #[.val (.int v1), .val (.int v2), .val (.int v3), .val (.int k1), .val (.int k2), .val (.int k3), .val (.ref b219), .val (.int kA.toInt32), .val (.int kB.toInt32), .val (.int v2), .val (.int kB.toInt32), .val (.int kB.toInt32), .val (.int (1 : Int32)), .val (.int v1), .val (.int kA.toInt32), .val (.int kC.toInt32), .val (.int v1), .val (.int kA.toInt32), .unset, .unset, .unset]) rfl) ?_
        show Go p e below s n0 _ _ _ (T308.setTop (mkF m 214 #[.val (.int v1), .val (.int v2), .val (.int v3), .val (.int k1), .val (.int k2), .val (.int k3), .val (.ref b219), .val (.int kA.toInt32), .val (.int kB.toInt32), .val (.int v2), .val (.int kB.toInt32), .val (.int kB.toInt32), .val (.int (1 : Int32)), .val (.int v1), .val (.int kA.toInt32), .val (.int kC.toInt32), .val (.int v1), .val (.int kA.toInt32), .unset, .unset, .unset] []))
        refine Go.st (fun _ => XS.aload X308.here C.hx rfl (hb C.hby at_214) rfl rfl) ?_
        show Go p e below s n0 _ _ _ (T308.setTop (mkF m 216 #[.val (.int v1), .val (.int v2), .val (.int v3), .val (.int k1), .val (.int k2), .val (.int k3), .val (.ref b219), .val (.int kA.toInt32), .val (.int kB.toInt32), .val (.int v2), .val (.int kB.toInt32), .val (.int kB.toInt32), .val (.int (1 : Int32)), .val (.int v1), .val (.int kA.toInt32), .val (.int kC.toInt32), .val (.int v1), .val (.int kA.toInt32), .unset, .unset, .unset] [(.ref b219)]))
        refine Go.callV C X308 (W := 0) (argsL := []) (rest := []) (a := b219) (BB307).1 (wd 34 rfl) (wd 35 rfl) (wd 37 rfl) (wd 36 rfl) (wd 2 rfl) (wd 38 rfl) (by decide) rfl (con_take l Z a0 hw n0 h307 X308.size b219 a1_220 a2_220 a3_220 (bN5 4 kA kB kC) (bO4 4 kA kB kC) [v1, v2, v3] ((3 : Nat).toInt32) ((kA : Nat).toInt32) kA DD220 rfl lO4 (by rw [fb5]; decide) fv5 rfl (by rw [fb5]; omega) BB307) (by decide) (by decide) rfl (lenOf pd_6 rfl) (Nat.le_of_ble_eq_true rfl) rfl at_216 (by decide) (by decide) (fun T309 h309 v309 X309 hQ309 => ?_)
        obtain ⟨rfl, BA309⟩ := hQ309
        rw [tkV_hit (e := 2) fb5 fk2 (by omega) fe2]
        have BB309 : BQ Z h309 b219 a1_220 a2_220 a3_220 (bN6 4 kA kB kC) (bO4 4 kA kB kC) [v1, v2, v3] (3 : Nat).toInt32 (kC : Nat).toInt32 := by have u := BA309; rw [fk2] at u; rw [show bN6 4 kA kB kC = tkN (bN5 4 kA kB kC) (bO4 4 kA kB kC) kA from by unfold bN6 bK1 bK0; rw [fk0, fk1]]; exact u
        show Go p e below s n0 _ _ _ (T309.setTop (mkF m 219 #[.val (.int v1), .val (.int v2), .val (.int v3), .val (.int k1), .val (.int k2), .val (.int k3), .val (.ref b219), .val (.int kA.toInt32), .val (.int kB.toInt32), .val (.int v2), .val (.int kB.toInt32), .val (.int kB.toInt32), .val (.int (1 : Int32)), .val (.int v1), .val (.int kA.toInt32), .val (.int kC.toInt32), .val (.int v1), .val (.int kA.toInt32), .unset, .unset, .unset] [(.int v3)]))
        refine Go.st (fun _ => XS.istore X309.here C.hx rfl (hb C.hby at_219) rfl (l' := #[.val (.int v1), .val (.int v2), .val (.int v3), .val (.int k1), .val (.int k2), .val (.int k3), .val (.ref b219), .val (.int kA.toInt32), .val (.int kB.toInt32), .val (.int v2), .val (.int kB.toInt32), .val (.int kB.toInt32), .val (.int (1 : Int32)), .val (.int v1), .val (.int kA.toInt32), .val (.int kC.toInt32), .val (.int v1), .val (.int kA.toInt32), .val (.int v3), .unset, .unset]) rfl) ?_
        show Go p e below s n0 _ _ _ (T309.setTop (mkF m 221 #[.val (.int v1), .val (.int v2), .val (.int v3), .val (.int k1), .val (.int k2), .val (.int k3), .val (.ref b219), .val (.int kA.toInt32), .val (.int kB.toInt32), .val (.int v2), .val (.int kB.toInt32), .val (.int kB.toInt32), .val (.int (1 : Int32)), .val (.int v1), .val (.int kA.toInt32), .val (.int kC.toInt32), .val (.int v1), .val (.int kA.toInt32), .val (.int v3), .unset, .unset] []))
        refine Go.st (fun _ => XS.aload X309.here C.hx rfl (hb C.hby at_221) rfl rfl) ?_
        show Go p e below s n0 _ _ _ (T309.setTop (mkF m 223 #[.val (.int v1), .val (.int v2), .val (.int v3), .val (.int k1), .val (.int k2), .val (.int k3), .val (.ref b219), .val (.int kA.toInt32), .val (.int kB.toInt32), .val (.int v2), .val (.int kB.toInt32), .val (.int kB.toInt32), .val (.int (1 : Int32)), .val (.int v1), .val (.int kA.toInt32), .val (.int kC.toInt32), .val (.int v1), .val (.int kA.toInt32), .val (.int v3), .unset, .unset] [(.ref b219)]))
        refine Go.callV C X309 (W := 0) (argsL := []) (rest := []) (a := b219) (BB309).1 (wd 39 rfl) (wd 40 rfl) (wd 42 rfl) (wd 41 rfl) (wd 2 rfl) (wd 43 rfl) (by decide) rfl (con_key l Z a0 hw n0 h309 X309.size b219 a1_220 a2_220 a3_220 (bN6 4 kA kB kC) (bO4 4 kA kB kC) [v1, v2, v3] _ _ BB309) (by decide) (by decide) rfl (lenOf pd_7 rfl) (Nat.le_of_ble_eq_true rfl) rfl at_223 (by decide) (by decide) (fun T310 h310 v310 X310 hQ310 => ?_)
        obtain ⟨rfl, hh310⟩ := hQ310
        rw [hh310] at X310
        show Go p e below s n0 _ _ _ (T310.setTop (mkF m 226 #[.val (.int v1), .val (.int v2), .val (.int v3), .val (.int k1), .val (.int k2), .val (.int k3), .val (.ref b219), .val (.int kA.toInt32), .val (.int kB.toInt32), .val (.int v2), .val (.int kB.toInt32), .val (.int kB.toInt32), .val (.int (1 : Int32)), .val (.int v1), .val (.int kA.toInt32), .val (.int kC.toInt32), .val (.int v1), .val (.int kA.toInt32), .val (.int v3), .unset, .unset] [(.int kC.toInt32)]))
        refine Go.st (fun _ => XS.istore X310.here C.hx rfl (hb C.hby at_226) rfl (l' := #[.val (.int v1), .val (.int v2), .val (.int v3), .val (.int k1), .val (.int k2), .val (.int k3), .val (.ref b219), .val (.int kA.toInt32), .val (.int kB.toInt32), .val (.int v2), .val (.int kB.toInt32), .val (.int kB.toInt32), .val (.int (1 : Int32)), .val (.int v1), .val (.int kA.toInt32), .val (.int kC.toInt32), .val (.int v1), .val (.int kA.toInt32), .val (.int v3), .val (.int kC.toInt32), .unset]) rfl) ?_
        show Go p e below s n0 _ _ _ (T310.setTop (mkF m 228 #[.val (.int v1), .val (.int v2), .val (.int v3), .val (.int k1), .val (.int k2), .val (.int k3), .val (.ref b219), .val (.int kA.toInt32), .val (.int kB.toInt32), .val (.int v2), .val (.int kB.toInt32), .val (.int kB.toInt32), .val (.int (1 : Int32)), .val (.int v1), .val (.int kA.toInt32), .val (.int kC.toInt32), .val (.int v1), .val (.int kA.toInt32), .val (.int v3), .val (.int kC.toInt32), .unset] []))
        refine Go.st (fun _ => XS.aload X310.here C.hx rfl (hb C.hby at_228) rfl rfl) ?_
        show Go p e below s n0 _ _ _ (T310.setTop (mkF m 230 #[.val (.int v1), .val (.int v2), .val (.int v3), .val (.int k1), .val (.int k2), .val (.int k3), .val (.ref b219), .val (.int kA.toInt32), .val (.int kB.toInt32), .val (.int v2), .val (.int kB.toInt32), .val (.int kB.toInt32), .val (.int (1 : Int32)), .val (.int v1), .val (.int kA.toInt32), .val (.int kC.toInt32), .val (.int v1), .val (.int kA.toInt32), .val (.int v3), .val (.int kC.toInt32), .unset] [(.ref b219)]))
        refine Go.callV C X310 (W := 0) (argsL := []) (rest := []) (a := b219) (BB309).1 (wd 34 rfl) (wd 35 rfl) (wd 37 rfl) (wd 36 rfl) (wd 2 rfl) (wd 38 rfl) (by decide) rfl (con_take l Z a0 hw n0 h309 X310.size b219 a1_220 a2_220 a3_220 (bN6 4 kA kB kC) (bO4 4 kA kB kC) [v1, v2, v3] ((3 : Nat).toInt32) ((kC : Nat).toInt32) kC DD220 rfl lO4 (by rw [fb6]; decide) fv6 rfl (by rw [fb6]; omega) BB309) (by decide) (by decide) rfl (lenOf pd_6 rfl) (Nat.le_of_ble_eq_true rfl) rfl at_230 (by decide) (by decide) (fun T311 h311 v311 X311 hQ311 => ?_)
        obtain ⟨rfl, BA311⟩ := hQ311
        rw [tkV_end fb6 fk3]
        have BB311 : BQ Z h311 b219 a1_220 a2_220 a3_220 (tkN (bN6 4 kA kB kC) (bO4 4 kA kB kC) kC) (bO4 4 kA kB kC) [v1, v2, v3] (3 : Nat).toInt32 (4 : Nat).toInt32 := by have u := BA311; rw [fk3] at u; exact u
        show Go p e below s n0 _ _ _ (T311.setTop (mkF m 233 #[.val (.int v1), .val (.int v2), .val (.int v3), .val (.int k1), .val (.int k2), .val (.int k3), .val (.ref b219), .val (.int kA.toInt32), .val (.int kB.toInt32), .val (.int v2), .val (.int kB.toInt32), .val (.int kB.toInt32), .val (.int (1 : Int32)), .val (.int v1), .val (.int kA.toInt32), .val (.int kC.toInt32), .val (.int v1), .val (.int kA.toInt32), .val (.int v3), .val (.int kC.toInt32), .unset] [(.int (-1 : Int32))]))
        refine Go.st (fun _ => XS.istore X311.here C.hx rfl (hb C.hby at_233) rfl (l' := #[.val (.int v1), .val (.int v2), .val (.int v3), .val (.int k1), .val (.int k2), .val (.int k3), .val (.ref b219), .val (.int kA.toInt32), .val (.int kB.toInt32), .val (.int v2), .val (.int kB.toInt32), .val (.int kB.toInt32), .val (.int (1 : Int32)), .val (.int v1), .val (.int kA.toInt32), .val (.int kC.toInt32), .val (.int v1), .val (.int kA.toInt32), .val (.int v3), .val (.int kC.toInt32), .val (.int (-1 : Int32))]) rfl) ?_
        show Go p e below s n0 _ _ _ (T311.setTop (mkF m 235 #[.val (.int v1), .val (.int v2), .val (.int v3), .val (.int k1), .val (.int k2), .val (.int k3), .val (.ref b219), .val (.int kA.toInt32), .val (.int kB.toInt32), .val (.int v2), .val (.int kB.toInt32), .val (.int kB.toInt32), .val (.int (1 : Int32)), .val (.int v1), .val (.int kA.toInt32), .val (.int kC.toInt32), .val (.int v1), .val (.int kA.toInt32), .val (.int v3), .val (.int kC.toInt32), .val (.int (-1 : Int32))] []))
        refine Go.st (fun _ => XS.iload X311.here C.hx rfl (hb C.hby at_235) rfl) ?_
        show Go p e below s n0 _ _ _ (T311.setTop (mkF m 237 #[.val (.int v1), .val (.int v2), .val (.int v3), .val (.int k1), .val (.int k2), .val (.int k3), .val (.ref b219), .val (.int kA.toInt32), .val (.int kB.toInt32), .val (.int v2), .val (.int kB.toInt32), .val (.int kB.toInt32), .val (.int (1 : Int32)), .val (.int v1), .val (.int kA.toInt32), .val (.int kC.toInt32), .val (.int v1), .val (.int kA.toInt32), .val (.int v3), .val (.int kC.toInt32), .val (.int (-1 : Int32))] [(.int (1 : Int32))]))
        refine Go.if_eq C X311 (pc' := 271) at_237 (by decide) (by decide) (fun hc => absurd hc (by decide)) (fun _ => ?_)
        show Go p e below s n0 _ _ _ (T311.setTop (mkF m 240 #[.val (.int v1), .val (.int v2), .val (.int v3), .val (.int k1), .val (.int k2), .val (.int k3), .val (.ref b219), .val (.int kA.toInt32), .val (.int kB.toInt32), .val (.int v2), .val (.int kB.toInt32), .val (.int kB.toInt32), .val (.int (1 : Int32)), .val (.int v1), .val (.int kA.toInt32), .val (.int kC.toInt32), .val (.int v1), .val (.int kA.toInt32), .val (.int v3), .val (.int kC.toInt32), .val (.int (-1 : Int32))] []))
        refine Go.st (fun _ => XS.iload X311.here C.hx rfl (hb C.hby at_240) rfl) ?_
        show Go p e below s n0 _ _ _ (T311.setTop (mkF m 242 #[.val (.int v1), .val (.int v2), .val (.int v3), .val (.int k1), .val (.int k2), .val (.int k3), .val (.ref b219), .val (.int kA.toInt32), .val (.int kB.toInt32), .val (.int v2), .val (.int kB.toInt32), .val (.int kB.toInt32), .val (.int (1 : Int32)), .val (.int v1), .val (.int kA.toInt32), .val (.int kC.toInt32), .val (.int v1), .val (.int kA.toInt32), .val (.int v3), .val (.int kC.toInt32), .val (.int (-1 : Int32))] [(.int v1)]))
        refine Go.st (fun _ => XS.iload X311.here C.hx rfl (hb C.hby at_242) rfl) ?_
        show Go p e below s n0 _ _ _ (T311.setTop (mkF m 244 #[.val (.int v1), .val (.int v2), .val (.int v3), .val (.int k1), .val (.int k2), .val (.int k3), .val (.ref b219), .val (.int kA.toInt32), .val (.int kB.toInt32), .val (.int v2), .val (.int kB.toInt32), .val (.int kB.toInt32), .val (.int (1 : Int32)), .val (.int v1), .val (.int kA.toInt32), .val (.int kC.toInt32), .val (.int v1), .val (.int kA.toInt32), .val (.int v3), .val (.int kC.toInt32), .val (.int (-1 : Int32))] [(.int kA.toInt32), (.int v1)]))
        refine Go.st (fun _ => XS.iload X311.here C.hx rfl (hb C.hby at_244) rfl) ?_
        show Go p e below s n0 _ _ _ (T311.setTop (mkF m 246 #[.val (.int v1), .val (.int v2), .val (.int v3), .val (.int k1), .val (.int k2), .val (.int k3), .val (.ref b219), .val (.int kA.toInt32), .val (.int kB.toInt32), .val (.int v2), .val (.int kB.toInt32), .val (.int kB.toInt32), .val (.int (1 : Int32)), .val (.int v1), .val (.int kA.toInt32), .val (.int kC.toInt32), .val (.int v1), .val (.int kA.toInt32), .val (.int v3), .val (.int kC.toInt32), .val (.int (-1 : Int32))] [(.int v3), (.int kA.toInt32), (.int v1)]))
        refine Go.st (fun _ => XS.iload X311.here C.hx rfl (hb C.hby at_246) rfl) ?_
        show Go p e below s n0 _ _ _ (T311.setTop (mkF m 248 #[.val (.int v1), .val (.int v2), .val (.int v3), .val (.int k1), .val (.int k2), .val (.int k3), .val (.ref b219), .val (.int kA.toInt32), .val (.int kB.toInt32), .val (.int v2), .val (.int kB.toInt32), .val (.int kB.toInt32), .val (.int (1 : Int32)), .val (.int v1), .val (.int kA.toInt32), .val (.int kC.toInt32), .val (.int v1), .val (.int kA.toInt32), .val (.int v3), .val (.int kC.toInt32), .val (.int (-1 : Int32))] [(.int kC.toInt32), (.int v3), (.int kA.toInt32), (.int v1)]))
        refine Go.st (fun _ => XS.iload X311.here C.hx rfl (hb C.hby at_248) rfl) ?_
        show Go p e below s n0 _ _ _ (T311.setTop (mkF m 250 #[.val (.int v1), .val (.int v2), .val (.int v3), .val (.int k1), .val (.int k2), .val (.int k3), .val (.ref b219), .val (.int kA.toInt32), .val (.int kB.toInt32), .val (.int v2), .val (.int kB.toInt32), .val (.int kB.toInt32), .val (.int (1 : Int32)), .val (.int v1), .val (.int kA.toInt32), .val (.int kC.toInt32), .val (.int v1), .val (.int kA.toInt32), .val (.int v3), .val (.int kC.toInt32), .val (.int (-1 : Int32))] [(.int v1), (.int kC.toInt32), (.int v3), (.int kA.toInt32), (.int v1)]))
        refine Go.st (fun _ => XS.iload X311.here C.hx rfl (hb C.hby at_250) rfl) ?_
        show Go p e below s n0 _ _ _ (T311.setTop (mkF m 252 #[.val (.int v1), .val (.int v2), .val (.int v3), .val (.int k1), .val (.int k2), .val (.int k3), .val (.ref b219), .val (.int kA.toInt32), .val (.int kB.toInt32), .val (.int v2), .val (.int kB.toInt32), .val (.int kB.toInt32), .val (.int (1 : Int32)), .val (.int v1), .val (.int kA.toInt32), .val (.int kC.toInt32), .val (.int v1), .val (.int kA.toInt32), .val (.int v3), .val (.int kC.toInt32), .val (.int (-1 : Int32))] [(.int kA.toInt32), (.int v1), (.int kC.toInt32), (.int v3), (.int kA.toInt32), (.int v1)]))
        refine Go.st (fun _ => XS.iloadN X311.here C.hx rfl (hb C.hby at_252) rfl) ?_
        show Go p e below s n0 _ _ _ (T311.setTop (mkF m 253 #[.val (.int v1), .val (.int v2), .val (.int v3), .val (.int k1), .val (.int k2), .val (.int k3), .val (.ref b219), .val (.int kA.toInt32), .val (.int kB.toInt32), .val (.int v2), .val (.int kB.toInt32), .val (.int kB.toInt32), .val (.int (1 : Int32)), .val (.int v1), .val (.int kA.toInt32), .val (.int kC.toInt32), .val (.int v1), .val (.int kA.toInt32), .val (.int v3), .val (.int kC.toInt32), .val (.int (-1 : Int32))] [(.int v3), (.int kA.toInt32), (.int v1), (.int kC.toInt32), (.int v3), (.int kA.toInt32), (.int v1)]))
        refine Go.st (fun _ => XS.iload X311.here C.hx rfl (hb C.hby at_253) rfl) ?_
        show Go p e below s n0 _ _ _ (T311.setTop (mkF m 255 #[.val (.int v1), .val (.int v2), .val (.int v3), .val (.int k1), .val (.int k2), .val (.int k3), .val (.ref b219), .val (.int kA.toInt32), .val (.int kB.toInt32), .val (.int v2), .val (.int kB.toInt32), .val (.int kB.toInt32), .val (.int (1 : Int32)), .val (.int v1), .val (.int kA.toInt32), .val (.int kC.toInt32), .val (.int v1), .val (.int kA.toInt32), .val (.int v3), .val (.int kC.toInt32), .val (.int (-1 : Int32))] [(.int kC.toInt32), (.int v3), (.int kA.toInt32), (.int v1), (.int kC.toInt32), (.int v3), (.int kA.toInt32), (.int v1)]))
        refine Go.callS C X311 (W := 0) (argsL := [(.int v1), (.int kA.toInt32), (.int v3), (.int kC.toInt32), (.int v1), (.int kA.toInt32), (.int v3), (.int kC.toInt32)]) (rest := []) (wd 48 rfl) (wd 49 rfl) (wd 50 rfl) (wd 51 rfl) (by decide) (con_pair l Z a0 hw n0 h311 X311.size v1 kA.toInt32 v3 kC.toInt32 v1 kA.toInt32 v3 kC.toInt32) (by decide) (by decide) rfl (lenOf pd_9 rfl) (Nat.le_of_ble_eq_true rfl) rfl at_255 (by decide) (by decide) (fun T313 h313 v313 X313 hQ313 => ?_)
        obtain ⟨rfl, hh313⟩ := hQ313
        rw [hh313] at X313
        rw [show pairF v1 kA.toInt32 v3 kC.toInt32 v1 kA.toInt32 v3 kC.toInt32 = 1 from by simp [pairF, (ltI hA4 hC4).mpr hRC]]
        show Go p e below s n0 _ _ _ (T313.setTop (mkF m 258 #[.val (.int v1), .val (.int v2), .val (.int v3), .val (.int k1), .val (.int k2), .val (.int k3), .val (.ref b219), .val (.int kA.toInt32), .val (.int kB.toInt32), .val (.int v2), .val (.int kB.toInt32), .val (.int kB.toInt32), .val (.int (1 : Int32)), .val (.int v1), .val (.int kA.toInt32), .val (.int kC.toInt32), .val (.int v1), .val (.int kA.toInt32), .val (.int v3), .val (.int kC.toInt32), .val (.int (-1 : Int32))] [(.int (1 : Int32))]))
        refine Go.if_eq C X313 (pc' := 271) at_258 (by decide) (by decide) (fun hc => absurd hc (by decide)) (fun _ => ?_)
        show Go p e below s n0 _ _ _ (T313.setTop (mkF m 261 #[.val (.int v1), .val (.int v2), .val (.int v3), .val (.int k1), .val (.int k2), .val (.int k3), .val (.ref b219), .val (.int kA.toInt32), .val (.int kB.toInt32), .val (.int v2), .val (.int kB.toInt32), .val (.int kB.toInt32), .val (.int (1 : Int32)), .val (.int v1), .val (.int kA.toInt32), .val (.int kC.toInt32), .val (.int v1), .val (.int kA.toInt32), .val (.int v3), .val (.int kC.toInt32), .val (.int (-1 : Int32))] []))
        refine Go.st (fun _ => XS.iload X313.here C.hx rfl (hb C.hby at_261) rfl) ?_
        show Go p e below s n0 _ _ _ (T313.setTop (mkF m 263 #[.val (.int v1), .val (.int v2), .val (.int v3), .val (.int k1), .val (.int k2), .val (.int k3), .val (.ref b219), .val (.int kA.toInt32), .val (.int kB.toInt32), .val (.int v2), .val (.int kB.toInt32), .val (.int kB.toInt32), .val (.int (1 : Int32)), .val (.int v1), .val (.int kA.toInt32), .val (.int kC.toInt32), .val (.int v1), .val (.int kA.toInt32), .val (.int v3), .val (.int kC.toInt32), .val (.int (-1 : Int32))] [(.int (-1 : Int32))]))
        refine Go.st (fun _ => XS.iconst X313.here C.hx rfl (hb C.hby at_263)) ?_
        show Go p e below s n0 _ _ _ (T313.setTop (mkF m 264 #[.val (.int v1), .val (.int v2), .val (.int v3), .val (.int k1), .val (.int k2), .val (.int k3), .val (.ref b219), .val (.int kA.toInt32), .val (.int kB.toInt32), .val (.int v2), .val (.int kB.toInt32), .val (.int kB.toInt32), .val (.int (1 : Int32)), .val (.int v1), .val (.int kA.toInt32), .val (.int kC.toInt32), .val (.int v1), .val (.int kA.toInt32), .val (.int v3), .val (.int kC.toInt32), .val (.int (-1 : Int32))] [(.int (-1 : Int32)), (.int (-1 : Int32))]))
        refine Go.icmp_ne C X313 (pc' := 271) at_264 (by decide) (by decide) (fun hc => absurd hc (by decide)) (fun _ => ?_)
        show Go p e below s n0 _ _ _ (T313.setTop (mkF m 267 #[.val (.int v1), .val (.int v2), .val (.int v3), .val (.int k1), .val (.int k2), .val (.int k3), .val (.ref b219), .val (.int kA.toInt32), .val (.int kB.toInt32), .val (.int v2), .val (.int kB.toInt32), .val (.int kB.toInt32), .val (.int (1 : Int32)), .val (.int v1), .val (.int kA.toInt32), .val (.int kC.toInt32), .val (.int v1), .val (.int kA.toInt32), .val (.int v3), .val (.int kC.toInt32), .val (.int (-1 : Int32))] []))
        refine Go.st (fun _ => XS.iconst X313.here C.hx rfl (hb C.hby at_267)) ?_
        show Go p e below s n0 _ _ _ (T313.setTop (mkF m 268 #[.val (.int v1), .val (.int v2), .val (.int v3), .val (.int k1), .val (.int k2), .val (.int k3), .val (.ref b219), .val (.int kA.toInt32), .val (.int kB.toInt32), .val (.int v2), .val (.int kB.toInt32), .val (.int kB.toInt32), .val (.int (1 : Int32)), .val (.int v1), .val (.int kA.toInt32), .val (.int kC.toInt32), .val (.int v1), .val (.int kA.toInt32), .val (.int v3), .val (.int kC.toInt32), .val (.int (-1 : Int32))] [(.int (1 : Int32))]))
        refine Go.st (fun _ => XS.goto X313.here C.hx rfl (pc0 := 268) (pc' := 272) rfl (hb C.hby at_268) (by decide) (by decide)) ?_
        show Go p e below s n0 _ _ _ (T313.setTop (mkF m 272 #[.val (.int v1), .val (.int v2), .val (.int v3), .val (.int k1), .val (.int k2), .val (.int k3), .val (.ref b219), .val (.int kA.toInt32), .val (.int kB.toInt32), .val (.int v2), .val (.int kB.toInt32), .val (.int kB.toInt32), .val (.int (1 : Int32)), .val (.int v1), .val (.int kA.toInt32), .val (.int kC.toInt32), .val (.int v1), .val (.int kA.toInt32), .val (.int v3), .val (.int kC.toInt32), .val (.int (-1 : Int32))] [(.int (1 : Int32))]))
        exact Go.retZ C X313 (by decide) at_272 rfl (by decide) (by decide)
      · rw [if_neg hRC] at fk1 fe1 fk2 fe2
        rw [if_neg hRC] at fe1 fe2
        unfold bK2 bK1 bK0 at fk3
        unfold bK2 bK1 bK0 at fk2
        unfold bK1 bK0 at fk1
        rw [fk0] at fk1 fk2 fk3
        rw [fk1] at fk2 fk3
        rw [fk2] at fk3
        show Go p e below s n0 _ _ _ (T252.setTop (mkF m 192 #[.val (.int v1), .val (.int v2), .val (.int v3), .val (.int k1), .val (.int k2), .val (.int k3), .val (.ref b219), .val (.int kA.toInt32), .val (.int kB.toInt32), .val (.int v2), .val (.int kB.toInt32), .val (.int kB.toInt32), .val (.int (1 : Int32)), .val (.int v1), .val (.int kA.toInt32), .val (.int kC.toInt32), .unset, .unset, .unset, .unset, .unset] []))
        refine Go.st (fun _ => XS.aload X252.here C.hx rfl (hb C.hby at_192) rfl rfl) ?_
        show Go p e below s n0 _ _ _ (T252.setTop (mkF m 194 #[.val (.int v1), .val (.int v2), .val (.int v3), .val (.int k1), .val (.int k2), .val (.int k3), .val (.ref b219), .val (.int kA.toInt32), .val (.int kB.toInt32), .val (.int v2), .val (.int kB.toInt32), .val (.int kB.toInt32), .val (.int (1 : Int32)), .val (.int v1), .val (.int kA.toInt32), .val (.int kC.toInt32), .unset, .unset, .unset, .unset, .unset] [(.ref b219)]))
        refine Go.st (fun _ => XS.iloadN X252.here C.hx rfl (hb C.hby at_194) rfl) ?_
        show Go p e below s n0 _ _ _ (T252.setTop (mkF m 195 #[.val (.int v1), .val (.int v2), .val (.int v3), .val (.int k1), .val (.int k2), .val (.int k3), .val (.ref b219), .val (.int kA.toInt32), .val (.int kB.toInt32), .val (.int v2), .val (.int kB.toInt32), .val (.int kB.toInt32), .val (.int (1 : Int32)), .val (.int v1), .val (.int kA.toInt32), .val (.int kC.toInt32), .unset, .unset, .unset, .unset, .unset] [(.int v3), (.ref b219)]))
        refine Go.st (fun _ => XS.iload X252.here C.hx rfl (hb C.hby at_195) rfl) ?_
        show Go p e below s n0 _ _ _ (T252.setTop (mkF m 197 #[.val (.int v1), .val (.int v2), .val (.int v3), .val (.int k1), .val (.int k2), .val (.int k3), .val (.ref b219), .val (.int kA.toInt32), .val (.int kB.toInt32), .val (.int v2), .val (.int kB.toInt32), .val (.int kB.toInt32), .val (.int (1 : Int32)), .val (.int v1), .val (.int kA.toInt32), .val (.int kC.toInt32), .unset, .unset, .unset, .unset, .unset] [(.int kC.toInt32), (.int v3), (.ref b219)]))
        refine Go.callV C X252 (W := 0) (argsL := [(.int v3), (.int kC.toInt32)]) (rest := []) (a := b219) (BB250).1 (wd 29 rfl) (wd 30 rfl) (wd 32 rfl) (wd 31 rfl) (wd 2 rfl) (wd 33 rfl) (by decide) rfl (con_put l Z a0 hw n0 h250 X252.size b219 a1_220 a2_220 a3_220 (bN3 4 kA kB) (bO2 4 kA kB) [v1, v2, 0] 2 ((kB : Nat).toInt32) v3 kC.toInt32 kC DD220 (by decide) rfl lO2 rfl (by rw [fa3]; exact hC4) (by rw [fa3]; decide) BB250) (by decide) (by decide) rfl (lenOf pd_5 rfl) (Nat.le_of_ble_eq_true rfl) rfl at_197 (by decide) (by decide) (fun T316 h316 v316 X316 hQ316 => ?_)
        obtain ⟨rfl, BA316⟩ := hQ316
        have BB316 : BQ Z h316 b219 a1_220 a2_220 a3_220 (bN4 4 kA kB kC) (bO4 4 kA kB kC) [v1, v2, v3] (3 : Nat).toInt32 (kB : Nat).toInt32 := BA316
        show Go p e below s n0 _ _ _ (T316.setTop (mkF m 200 #[.val (.int v1), .val (.int v2), .val (.int v3), .val (.int k1), .val (.int k2), .val (.int k3), .val (.ref b219), .val (.int kA.toInt32), .val (.int kB.toInt32), .val (.int v2), .val (.int kB.toInt32), .val (.int kB.toInt32), .val (.int (1 : Int32)), .val (.int v1), .val (.int kA.toInt32), .val (.int kC.toInt32), .unset, .unset, .unset, .unset, .unset] []))
        refine Go.st (fun _ => XS.aload X316.here C.hx rfl (hb C.hby at_200) rfl rfl) ?_
        show Go p e below s n0 _ _ _ (T316.setTop (mkF m 202 #[.val (.int v1), .val (.int v2), .val (.int v3), .val (.int k1), .val (.int k2), .val (.int k3), .val (.ref b219), .val (.int kA.toInt32), .val (.int kB.toInt32), .val (.int v2), .val (.int kB.toInt32), .val (.int kB.toInt32), .val (.int (1 : Int32)), .val (.int v1), .val (.int kA.toInt32), .val (.int kC.toInt32), .unset, .unset, .unset, .unset, .unset] [(.ref b219)]))
        refine Go.callV C X316 (W := 0) (argsL := []) (rest := []) (a := b219) (BB316).1 (wd 34 rfl) (wd 35 rfl) (wd 37 rfl) (wd 36 rfl) (wd 2 rfl) (wd 38 rfl) (by decide) rfl (con_take l Z a0 hw n0 h316 X316.size b219 a1_220 a2_220 a3_220 (bN4 4 kA kB kC) (bO4 4 kA kB kC) [v1, v2, v3] ((3 : Nat).toInt32) ((kB : Nat).toInt32) kB DD220 rfl lO4 (by rw [fb4]; decide) fv4 rfl (by rw [fb4]; omega) BB316) (by decide) (by decide) rfl (lenOf pd_6 rfl) (Nat.le_of_ble_eq_true rfl) rfl at_202 (by decide) (by decide) (fun T317 h317 v317 X317 hQ317 => ?_)
        obtain ⟨rfl, BA317⟩ := hQ317
        rw [tkV_hit (e := 2) fb4 fk1 (by omega) fe1]
        have BB317 : BQ Z h317 b219 a1_220 a2_220 a3_220 (bN5 4 kA kB kC) (bO4 4 kA kB kC) [v1, v2, v3] (3 : Nat).toInt32 (kC : Nat).toInt32 := by have u := BA317; rw [fk1] at u; rw [show bN5 4 kA kB kC = tkN (bN4 4 kA kB kC) (bO4 4 kA kB kC) kB from by unfold bN5 bK0; rw [fk0]]; exact u
        show Go p e below s n0 _ _ _ (T317.setTop (mkF m 205 #[.val (.int v1), .val (.int v2), .val (.int v3), .val (.int k1), .val (.int k2), .val (.int k3), .val (.ref b219), .val (.int kA.toInt32), .val (.int kB.toInt32), .val (.int v2), .val (.int kB.toInt32), .val (.int kB.toInt32), .val (.int (1 : Int32)), .val (.int v1), .val (.int kA.toInt32), .val (.int kC.toInt32), .unset, .unset, .unset, .unset, .unset] [(.int v3)]))
        refine Go.st (fun _ => XS.istore X317.here C.hx rfl (hb C.hby at_205) rfl (l' := #[.val (.int v1), .val (.int v2), .val (.int v3), .val (.int k1), .val (.int k2), .val (.int k3), .val (.ref b219), .val (.int kA.toInt32), .val (.int kB.toInt32), .val (.int v2), .val (.int kB.toInt32), .val (.int kB.toInt32), .val (.int (1 : Int32)), .val (.int v1), .val (.int kA.toInt32), .val (.int kC.toInt32), .val (.int v3), .unset, .unset, .unset, .unset]) rfl) ?_
        show Go p e below s n0 _ _ _ (T317.setTop (mkF m 207 #[.val (.int v1), .val (.int v2), .val (.int v3), .val (.int k1), .val (.int k2), .val (.int k3), .val (.ref b219), .val (.int kA.toInt32), .val (.int kB.toInt32), .val (.int v2), .val (.int kB.toInt32), .val (.int kB.toInt32), .val (.int (1 : Int32)), .val (.int v1), .val (.int kA.toInt32), .val (.int kC.toInt32), .val (.int v3), .unset, .unset, .unset, .unset] []))
        refine Go.st (fun _ => XS.aload X317.here C.hx rfl (hb C.hby at_207) rfl rfl) ?_
        show Go p e below s n0 _ _ _ (T317.setTop (mkF m 209 #[.val (.int v1), .val (.int v2), .val (.int v3), .val (.int k1), .val (.int k2), .val (.int k3), .val (.ref b219), .val (.int kA.toInt32), .val (.int kB.toInt32), .val (.int v2), .val (.int kB.toInt32), .val (.int kB.toInt32), .val (.int (1 : Int32)), .val (.int v1), .val (.int kA.toInt32), .val (.int kC.toInt32), .val (.int v3), .unset, .unset, .unset, .unset] [(.ref b219)]))
        refine Go.callV C X317 (W := 0) (argsL := []) (rest := []) (a := b219) (BB317).1 (wd 39 rfl) (wd 40 rfl) (wd 42 rfl) (wd 41 rfl) (wd 2 rfl) (wd 43 rfl) (by decide) rfl (con_key l Z a0 hw n0 h317 X317.size b219 a1_220 a2_220 a3_220 (bN5 4 kA kB kC) (bO4 4 kA kB kC) [v1, v2, v3] _ _ BB317) (by decide) (by decide) rfl (lenOf pd_7 rfl) (Nat.le_of_ble_eq_true rfl) rfl at_209 (by decide) (by decide) (fun T318 h318 v318 X318 hQ318 => ?_)
        obtain ⟨rfl, hh318⟩ := hQ318
        rw [hh318] at X318
        show Go p e below s n0 _ _ _ (T318.setTop (mkF m 212 #[.val (.int v1), .val (.int v2), .val (.int v3), .val (.int k1), .val (.int k2), .val (.int k3), .val (.ref b219), .val (.int kA.toInt32), .val (.int kB.toInt32), .val (.int v2), .val (.int kB.toInt32), .val (.int kB.toInt32), .val (.int (1 : Int32)), .val (.int v1), .val (.int kA.toInt32), .val (.int kC.toInt32), .val (.int v3), .unset, .unset, .unset, .unset] [(.int kC.toInt32)]))
        refine Go.st (fun _ => XS.istore X318.here C.hx rfl (hb C.hby at_212) rfl (l' := #[.val (.int v1), .val (.int v2), .val (.int v3), .val (.int k1), .val (.int k2), .val (.int k3), .val (.ref b219), .val (.int kA.toInt32), .val (.int kB.toInt32), .val (.int v2), .val (.int kB.toInt32), .val (.int kB.toInt32), .val (.int (1 : Int32)), .val (.int v1), .val (.int kA.toInt32), .val (.int kC.toInt32), .val (.int v3), .val (.int kC.toInt32), .unset, .unset, .unset]) rfl) ?_
        show Go p e below s n0 _ _ _ (T318.setTop (mkF m 214 #[.val (.int v1), .val (.int v2), .val (.int v3), .val (.int k1), .val (.int k2), .val (.int k3), .val (.ref b219), .val (.int kA.toInt32), .val (.int kB.toInt32), .val (.int v2), .val (.int kB.toInt32), .val (.int kB.toInt32), .val (.int (1 : Int32)), .val (.int v1), .val (.int kA.toInt32), .val (.int kC.toInt32), .val (.int v3), .val (.int kC.toInt32), .unset, .unset, .unset] []))
        refine Go.st (fun _ => XS.aload X318.here C.hx rfl (hb C.hby at_214) rfl rfl) ?_
        show Go p e below s n0 _ _ _ (T318.setTop (mkF m 216 #[.val (.int v1), .val (.int v2), .val (.int v3), .val (.int k1), .val (.int k2), .val (.int k3), .val (.ref b219), .val (.int kA.toInt32), .val (.int kB.toInt32), .val (.int v2), .val (.int kB.toInt32), .val (.int kB.toInt32), .val (.int (1 : Int32)), .val (.int v1), .val (.int kA.toInt32), .val (.int kC.toInt32), .val (.int v3), .val (.int kC.toInt32), .unset, .unset, .unset] [(.ref b219)]))
        refine Go.callV C X318 (W := 0) (argsL := []) (rest := []) (a := b219) (BB317).1 (wd 34 rfl) (wd 35 rfl) (wd 37 rfl) (wd 36 rfl) (wd 2 rfl) (wd 38 rfl) (by decide) rfl (con_take l Z a0 hw n0 h317 X318.size b219 a1_220 a2_220 a3_220 (bN5 4 kA kB kC) (bO4 4 kA kB kC) [v1, v2, v3] ((3 : Nat).toInt32) ((kC : Nat).toInt32) kC DD220 rfl lO4 (by rw [fb5]; decide) fv5 rfl (by rw [fb5]; omega) BB317) (by decide) (by decide) rfl (lenOf pd_6 rfl) (Nat.le_of_ble_eq_true rfl) rfl at_216 (by decide) (by decide) (fun T319 h319 v319 X319 hQ319 => ?_)
        obtain ⟨rfl, BA319⟩ := hQ319
        rw [tkV_hit (e := 0) fb5 fk2 (by omega) fe2]
        have BB319 : BQ Z h319 b219 a1_220 a2_220 a3_220 (bN6 4 kA kB kC) (bO4 4 kA kB kC) [v1, v2, v3] (3 : Nat).toInt32 (kA : Nat).toInt32 := by have u := BA319; rw [fk2] at u; rw [show bN6 4 kA kB kC = tkN (bN5 4 kA kB kC) (bO4 4 kA kB kC) kC from by unfold bN6 bK1 bK0; rw [fk0, fk1]]; exact u
        show Go p e below s n0 _ _ _ (T319.setTop (mkF m 219 #[.val (.int v1), .val (.int v2), .val (.int v3), .val (.int k1), .val (.int k2), .val (.int k3), .val (.ref b219), .val (.int kA.toInt32), .val (.int kB.toInt32), .val (.int v2), .val (.int kB.toInt32), .val (.int kB.toInt32), .val (.int (1 : Int32)), .val (.int v1), .val (.int kA.toInt32), .val (.int kC.toInt32), .val (.int v3), .val (.int kC.toInt32), .unset, .unset, .unset] [(.int v1)]))
        refine Go.st (fun _ => XS.istore X319.here C.hx rfl (hb C.hby at_219) rfl (l' := #[.val (.int v1), .val (.int v2), .val (.int v3), .val (.int k1), .val (.int k2), .val (.int k3), .val (.ref b219), .val (.int kA.toInt32), .val (.int kB.toInt32), .val (.int v2), .val (.int kB.toInt32), .val (.int kB.toInt32), .val (.int (1 : Int32)), .val (.int v1), .val (.int kA.toInt32), .val (.int kC.toInt32), .val (.int v3), .val (.int kC.toInt32), .val (.int v1), .unset, .unset]) rfl) ?_
        show Go p e below s n0 _ _ _ (T319.setTop (mkF m 221 #[.val (.int v1), .val (.int v2), .val (.int v3), .val (.int k1), .val (.int k2), .val (.int k3), .val (.ref b219), .val (.int kA.toInt32), .val (.int kB.toInt32), .val (.int v2), .val (.int kB.toInt32), .val (.int kB.toInt32), .val (.int (1 : Int32)), .val (.int v1), .val (.int kA.toInt32), .val (.int kC.toInt32), .val (.int v3), .val (.int kC.toInt32), .val (.int v1), .unset, .unset] []))
        refine Go.st (fun _ => XS.aload X319.here C.hx rfl (hb C.hby at_221) rfl rfl) ?_
        show Go p e below s n0 _ _ _ (T319.setTop (mkF m 223 #[.val (.int v1), .val (.int v2), .val (.int v3), .val (.int k1), .val (.int k2), .val (.int k3), .val (.ref b219), .val (.int kA.toInt32), .val (.int kB.toInt32), .val (.int v2), .val (.int kB.toInt32), .val (.int kB.toInt32), .val (.int (1 : Int32)), .val (.int v1), .val (.int kA.toInt32), .val (.int kC.toInt32), .val (.int v3), .val (.int kC.toInt32), .val (.int v1), .unset, .unset] [(.ref b219)]))
        refine Go.callV C X319 (W := 0) (argsL := []) (rest := []) (a := b219) (BB319).1 (wd 39 rfl) (wd 40 rfl) (wd 42 rfl) (wd 41 rfl) (wd 2 rfl) (wd 43 rfl) (by decide) rfl (con_key l Z a0 hw n0 h319 X319.size b219 a1_220 a2_220 a3_220 (bN6 4 kA kB kC) (bO4 4 kA kB kC) [v1, v2, v3] _ _ BB319) (by decide) (by decide) rfl (lenOf pd_7 rfl) (Nat.le_of_ble_eq_true rfl) rfl at_223 (by decide) (by decide) (fun T320 h320 v320 X320 hQ320 => ?_)
        obtain ⟨rfl, hh320⟩ := hQ320
        rw [hh320] at X320
        show Go p e below s n0 _ _ _ (T320.setTop (mkF m 226 #[.val (.int v1), .val (.int v2), .val (.int v3), .val (.int k1), .val (.int k2), .val (.int k3), .val (.ref b219), .val (.int kA.toInt32), .val (.int kB.toInt32), .val (.int v2), .val (.int kB.toInt32), .val (.int kB.toInt32), .val (.int (1 : Int32)), .val (.int v1), .val (.int kA.toInt32), .val (.int kC.toInt32), .val (.int v3), .val (.int kC.toInt32), .val (.int v1), .unset, .unset] [(.int kA.toInt32)]))
        refine Go.st (fun _ => XS.istore X320.here C.hx rfl (hb C.hby at_226) rfl (l' := #[.val (.int v1), .val (.int v2), .val (.int v3), .val (.int k1), .val (.int k2), .val (.int k3), .val (.ref b219), .val (.int kA.toInt32), .val (.int kB.toInt32), .val (.int v2), .val (.int kB.toInt32), .val (.int kB.toInt32), .val (.int (1 : Int32)), .val (.int v1), .val (.int kA.toInt32), .val (.int kC.toInt32), .val (.int v3), .val (.int kC.toInt32), .val (.int v1), .val (.int kA.toInt32), .unset]) rfl) ?_
        show Go p e below s n0 _ _ _ (T320.setTop (mkF m 228 #[.val (.int v1), .val (.int v2), .val (.int v3), .val (.int k1), .val (.int k2), .val (.int k3), .val (.ref b219), .val (.int kA.toInt32), .val (.int kB.toInt32), .val (.int v2), .val (.int kB.toInt32), .val (.int kB.toInt32), .val (.int (1 : Int32)), .val (.int v1), .val (.int kA.toInt32), .val (.int kC.toInt32), .val (.int v3), .val (.int kC.toInt32), .val (.int v1), .val (.int kA.toInt32), .unset] []))
        refine Go.st (fun _ => XS.aload X320.here C.hx rfl (hb C.hby at_228) rfl rfl) ?_
        show Go p e below s n0 _ _ _ (T320.setTop (mkF m 230 #[.val (.int v1), .val (.int v2), .val (.int v3), .val (.int k1), .val (.int k2), .val (.int k3), .val (.ref b219), .val (.int kA.toInt32), .val (.int kB.toInt32), .val (.int v2), .val (.int kB.toInt32), .val (.int kB.toInt32), .val (.int (1 : Int32)), .val (.int v1), .val (.int kA.toInt32), .val (.int kC.toInt32), .val (.int v3), .val (.int kC.toInt32), .val (.int v1), .val (.int kA.toInt32), .unset] [(.ref b219)]))
        refine Go.callV C X320 (W := 0) (argsL := []) (rest := []) (a := b219) (BB319).1 (wd 34 rfl) (wd 35 rfl) (wd 37 rfl) (wd 36 rfl) (wd 2 rfl) (wd 38 rfl) (by decide) rfl (con_take l Z a0 hw n0 h319 X320.size b219 a1_220 a2_220 a3_220 (bN6 4 kA kB kC) (bO4 4 kA kB kC) [v1, v2, v3] ((3 : Nat).toInt32) ((kA : Nat).toInt32) kA DD220 rfl lO4 (by rw [fb6]; decide) fv6 rfl (by rw [fb6]; omega) BB319) (by decide) (by decide) rfl (lenOf pd_6 rfl) (Nat.le_of_ble_eq_true rfl) rfl at_230 (by decide) (by decide) (fun T321 h321 v321 X321 hQ321 => ?_)
        obtain ⟨rfl, BA321⟩ := hQ321
        rw [tkV_end fb6 fk3]
        have BB321 : BQ Z h321 b219 a1_220 a2_220 a3_220 (tkN (bN6 4 kA kB kC) (bO4 4 kA kB kC) kA) (bO4 4 kA kB kC) [v1, v2, v3] (3 : Nat).toInt32 (4 : Nat).toInt32 := by have u := BA321; rw [fk3] at u; exact u
        show Go p e below s n0 _ _ _ (T321.setTop (mkF m 233 #[.val (.int v1), .val (.int v2), .val (.int v3), .val (.int k1), .val (.int k2), .val (.int k3), .val (.ref b219), .val (.int kA.toInt32), .val (.int kB.toInt32), .val (.int v2), .val (.int kB.toInt32), .val (.int kB.toInt32), .val (.int (1 : Int32)), .val (.int v1), .val (.int kA.toInt32), .val (.int kC.toInt32), .val (.int v3), .val (.int kC.toInt32), .val (.int v1), .val (.int kA.toInt32), .unset] [(.int (-1 : Int32))]))
        refine Go.st (fun _ => XS.istore X321.here C.hx rfl (hb C.hby at_233) rfl (l' := #[.val (.int v1), .val (.int v2), .val (.int v3), .val (.int k1), .val (.int k2), .val (.int k3), .val (.ref b219), .val (.int kA.toInt32), .val (.int kB.toInt32), .val (.int v2), .val (.int kB.toInt32), .val (.int kB.toInt32), .val (.int (1 : Int32)), .val (.int v1), .val (.int kA.toInt32), .val (.int kC.toInt32), .val (.int v3), .val (.int kC.toInt32), .val (.int v1), .val (.int kA.toInt32), .val (.int (-1 : Int32))]) rfl) ?_
        show Go p e below s n0 _ _ _ (T321.setTop (mkF m 235 #[.val (.int v1), .val (.int v2), .val (.int v3), .val (.int k1), .val (.int k2), .val (.int k3), .val (.ref b219), .val (.int kA.toInt32), .val (.int kB.toInt32), .val (.int v2), .val (.int kB.toInt32), .val (.int kB.toInt32), .val (.int (1 : Int32)), .val (.int v1), .val (.int kA.toInt32), .val (.int kC.toInt32), .val (.int v3), .val (.int kC.toInt32), .val (.int v1), .val (.int kA.toInt32), .val (.int (-1 : Int32))] []))
        refine Go.st (fun _ => XS.iload X321.here C.hx rfl (hb C.hby at_235) rfl) ?_
        show Go p e below s n0 _ _ _ (T321.setTop (mkF m 237 #[.val (.int v1), .val (.int v2), .val (.int v3), .val (.int k1), .val (.int k2), .val (.int k3), .val (.ref b219), .val (.int kA.toInt32), .val (.int kB.toInt32), .val (.int v2), .val (.int kB.toInt32), .val (.int kB.toInt32), .val (.int (1 : Int32)), .val (.int v1), .val (.int kA.toInt32), .val (.int kC.toInt32), .val (.int v3), .val (.int kC.toInt32), .val (.int v1), .val (.int kA.toInt32), .val (.int (-1 : Int32))] [(.int (1 : Int32))]))
        refine Go.if_eq C X321 (pc' := 271) at_237 (by decide) (by decide) (fun hc => absurd hc (by decide)) (fun _ => ?_)
        show Go p e below s n0 _ _ _ (T321.setTop (mkF m 240 #[.val (.int v1), .val (.int v2), .val (.int v3), .val (.int k1), .val (.int k2), .val (.int k3), .val (.ref b219), .val (.int kA.toInt32), .val (.int kB.toInt32), .val (.int v2), .val (.int kB.toInt32), .val (.int kB.toInt32), .val (.int (1 : Int32)), .val (.int v1), .val (.int kA.toInt32), .val (.int kC.toInt32), .val (.int v3), .val (.int kC.toInt32), .val (.int v1), .val (.int kA.toInt32), .val (.int (-1 : Int32))] []))
        refine Go.st (fun _ => XS.iload X321.here C.hx rfl (hb C.hby at_240) rfl) ?_
        show Go p e below s n0 _ _ _ (T321.setTop (mkF m 242 #[.val (.int v1), .val (.int v2), .val (.int v3), .val (.int k1), .val (.int k2), .val (.int k3), .val (.ref b219), .val (.int kA.toInt32), .val (.int kB.toInt32), .val (.int v2), .val (.int kB.toInt32), .val (.int kB.toInt32), .val (.int (1 : Int32)), .val (.int v1), .val (.int kA.toInt32), .val (.int kC.toInt32), .val (.int v3), .val (.int kC.toInt32), .val (.int v1), .val (.int kA.toInt32), .val (.int (-1 : Int32))] [(.int v3)]))
        refine Go.st (fun _ => XS.iload X321.here C.hx rfl (hb C.hby at_242) rfl) ?_
        show Go p e below s n0 _ _ _ (T321.setTop (mkF m 244 #[.val (.int v1), .val (.int v2), .val (.int v3), .val (.int k1), .val (.int k2), .val (.int k3), .val (.ref b219), .val (.int kA.toInt32), .val (.int kB.toInt32), .val (.int v2), .val (.int kB.toInt32), .val (.int kB.toInt32), .val (.int (1 : Int32)), .val (.int v1), .val (.int kA.toInt32), .val (.int kC.toInt32), .val (.int v3), .val (.int kC.toInt32), .val (.int v1), .val (.int kA.toInt32), .val (.int (-1 : Int32))] [(.int kC.toInt32), (.int v3)]))
        refine Go.st (fun _ => XS.iload X321.here C.hx rfl (hb C.hby at_244) rfl) ?_
        show Go p e below s n0 _ _ _ (T321.setTop (mkF m 246 #[.val (.int v1), .val (.int v2), .val (.int v3), .val (.int k1), .val (.int k2), .val (.int k3), .val (.ref b219), .val (.int kA.toInt32), .val (.int kB.toInt32), .val (.int v2), .val (.int kB.toInt32), .val (.int kB.toInt32), .val (.int (1 : Int32)), .val (.int v1), .val (.int kA.toInt32), .val (.int kC.toInt32), .val (.int v3), .val (.int kC.toInt32), .val (.int v1), .val (.int kA.toInt32), .val (.int (-1 : Int32))] [(.int v1), (.int kC.toInt32), (.int v3)]))
        refine Go.st (fun _ => XS.iload X321.here C.hx rfl (hb C.hby at_246) rfl) ?_
        show Go p e below s n0 _ _ _ (T321.setTop (mkF m 248 #[.val (.int v1), .val (.int v2), .val (.int v3), .val (.int k1), .val (.int k2), .val (.int k3), .val (.ref b219), .val (.int kA.toInt32), .val (.int kB.toInt32), .val (.int v2), .val (.int kB.toInt32), .val (.int kB.toInt32), .val (.int (1 : Int32)), .val (.int v1), .val (.int kA.toInt32), .val (.int kC.toInt32), .val (.int v3), .val (.int kC.toInt32), .val (.int v1), .val (.int kA.toInt32), .val (.int (-1 : Int32))] [(.int kA.toInt32), (.int v1), (.int kC.toInt32), (.int v3)]))
        refine Go.st (fun _ => XS.iload X321.here C.hx rfl (hb C.hby at_248) rfl) ?_
        show Go p e below s n0 _ _ _ (T321.setTop (mkF m 250 #[.val (.int v1), .val (.int v2), .val (.int v3), .val (.int k1), .val (.int k2), .val (.int k3), .val (.ref b219), .val (.int kA.toInt32), .val (.int kB.toInt32), .val (.int v2), .val (.int kB.toInt32), .val (.int kB.toInt32), .val (.int (1 : Int32)), .val (.int v1), .val (.int kA.toInt32), .val (.int kC.toInt32), .val (.int v3), .val (.int kC.toInt32), .val (.int v1), .val (.int kA.toInt32), .val (.int (-1 : Int32))] [(.int v1), (.int kA.toInt32), (.int v1), (.int kC.toInt32), (.int v3)]))
        refine Go.st (fun _ => XS.iload X321.here C.hx rfl (hb C.hby at_250) rfl) ?_
        show Go p e below s n0 _ _ _ (T321.setTop (mkF m 252 #[.val (.int v1), .val (.int v2), .val (.int v3), .val (.int k1), .val (.int k2), .val (.int k3), .val (.ref b219), .val (.int kA.toInt32), .val (.int kB.toInt32), .val (.int v2), .val (.int kB.toInt32), .val (.int kB.toInt32), .val (.int (1 : Int32)), .val (.int v1), .val (.int kA.toInt32), .val (.int kC.toInt32), .val (.int v3), .val (.int kC.toInt32), .val (.int v1), .val (.int kA.toInt32), .val (.int (-1 : Int32))] [(.int kA.toInt32), (.int v1), (.int kA.toInt32), (.int v1), (.int kC.toInt32), (.int v3)]))
        refine Go.st (fun _ => XS.iloadN X321.here C.hx rfl (hb C.hby at_252) rfl) ?_
        show Go p e below s n0 _ _ _ (T321.setTop (mkF m 253 #[.val (.int v1), .val (.int v2), .val (.int v3), .val (.int k1), .val (.int k2), .val (.int k3), .val (.ref b219), .val (.int kA.toInt32), .val (.int kB.toInt32), .val (.int v2), .val (.int kB.toInt32), .val (.int kB.toInt32), .val (.int (1 : Int32)), .val (.int v1), .val (.int kA.toInt32), .val (.int kC.toInt32), .val (.int v3), .val (.int kC.toInt32), .val (.int v1), .val (.int kA.toInt32), .val (.int (-1 : Int32))] [(.int v3), (.int kA.toInt32), (.int v1), (.int kA.toInt32), (.int v1), (.int kC.toInt32), (.int v3)]))
        refine Go.st (fun _ => XS.iload X321.here C.hx rfl (hb C.hby at_253) rfl) ?_
        show Go p e below s n0 _ _ _ (T321.setTop (mkF m 255 #[.val (.int v1), .val (.int v2), .val (.int v3), .val (.int k1), .val (.int k2), .val (.int k3), .val (.ref b219), .val (.int kA.toInt32), .val (.int kB.toInt32), .val (.int v2), .val (.int kB.toInt32), .val (.int kB.toInt32), .val (.int (1 : Int32)), .val (.int v1), .val (.int kA.toInt32), .val (.int kC.toInt32), .val (.int v3), .val (.int kC.toInt32), .val (.int v1), .val (.int kA.toInt32), .val (.int (-1 : Int32))] [(.int kC.toInt32), (.int v3), (.int kA.toInt32), (.int v1), (.int kA.toInt32), (.int v1), (.int kC.toInt32), (.int v3)]))
        refine Go.callS C X321 (W := 0) (argsL := [(.int v3), (.int kC.toInt32), (.int v1), (.int kA.toInt32), (.int v1), (.int kA.toInt32), (.int v3), (.int kC.toInt32)]) (rest := []) (wd 48 rfl) (wd 49 rfl) (wd 50 rfl) (wd 51 rfl) (by decide) (con_pair l Z a0 hw n0 h321 X321.size v3 kC.toInt32 v1 kA.toInt32 v1 kA.toInt32 v3 kC.toInt32) (by decide) (by decide) rfl (lenOf pd_9 rfl) (Nat.le_of_ble_eq_true rfl) rfl at_255 (by decide) (by decide) (fun T323 h323 v323 X323 hQ323 => ?_)
        obtain ⟨rfl, hh323⟩ := hQ323
        rw [hh323] at X323
        rw [show pairF v3 kC.toInt32 v1 kA.toInt32 v1 kA.toInt32 v3 kC.toInt32 = 1 from by exact pair_N hA4 hC4 hRC rfl]
        show Go p e below s n0 _ _ _ (T323.setTop (mkF m 258 #[.val (.int v1), .val (.int v2), .val (.int v3), .val (.int k1), .val (.int k2), .val (.int k3), .val (.ref b219), .val (.int kA.toInt32), .val (.int kB.toInt32), .val (.int v2), .val (.int kB.toInt32), .val (.int kB.toInt32), .val (.int (1 : Int32)), .val (.int v1), .val (.int kA.toInt32), .val (.int kC.toInt32), .val (.int v3), .val (.int kC.toInt32), .val (.int v1), .val (.int kA.toInt32), .val (.int (-1 : Int32))] [(.int (1 : Int32))]))
        refine Go.if_eq C X323 (pc' := 271) at_258 (by decide) (by decide) (fun hc => absurd hc (by decide)) (fun _ => ?_)
        show Go p e below s n0 _ _ _ (T323.setTop (mkF m 261 #[.val (.int v1), .val (.int v2), .val (.int v3), .val (.int k1), .val (.int k2), .val (.int k3), .val (.ref b219), .val (.int kA.toInt32), .val (.int kB.toInt32), .val (.int v2), .val (.int kB.toInt32), .val (.int kB.toInt32), .val (.int (1 : Int32)), .val (.int v1), .val (.int kA.toInt32), .val (.int kC.toInt32), .val (.int v3), .val (.int kC.toInt32), .val (.int v1), .val (.int kA.toInt32), .val (.int (-1 : Int32))] []))
        refine Go.st (fun _ => XS.iload X323.here C.hx rfl (hb C.hby at_261) rfl) ?_
        show Go p e below s n0 _ _ _ (T323.setTop (mkF m 263 #[.val (.int v1), .val (.int v2), .val (.int v3), .val (.int k1), .val (.int k2), .val (.int k3), .val (.ref b219), .val (.int kA.toInt32), .val (.int kB.toInt32), .val (.int v2), .val (.int kB.toInt32), .val (.int kB.toInt32), .val (.int (1 : Int32)), .val (.int v1), .val (.int kA.toInt32), .val (.int kC.toInt32), .val (.int v3), .val (.int kC.toInt32), .val (.int v1), .val (.int kA.toInt32), .val (.int (-1 : Int32))] [(.int (-1 : Int32))]))
        refine Go.st (fun _ => XS.iconst X323.here C.hx rfl (hb C.hby at_263)) ?_
        show Go p e below s n0 _ _ _ (T323.setTop (mkF m 264 #[.val (.int v1), .val (.int v2), .val (.int v3), .val (.int k1), .val (.int k2), .val (.int k3), .val (.ref b219), .val (.int kA.toInt32), .val (.int kB.toInt32), .val (.int v2), .val (.int kB.toInt32), .val (.int kB.toInt32), .val (.int (1 : Int32)), .val (.int v1), .val (.int kA.toInt32), .val (.int kC.toInt32), .val (.int v3), .val (.int kC.toInt32), .val (.int v1), .val (.int kA.toInt32), .val (.int (-1 : Int32))] [(.int (-1 : Int32)), (.int (-1 : Int32))]))
        refine Go.icmp_ne C X323 (pc' := 271) at_264 (by decide) (by decide) (fun hc => absurd hc (by decide)) (fun _ => ?_)
        show Go p e below s n0 _ _ _ (T323.setTop (mkF m 267 #[.val (.int v1), .val (.int v2), .val (.int v3), .val (.int k1), .val (.int k2), .val (.int k3), .val (.ref b219), .val (.int kA.toInt32), .val (.int kB.toInt32), .val (.int v2), .val (.int kB.toInt32), .val (.int kB.toInt32), .val (.int (1 : Int32)), .val (.int v1), .val (.int kA.toInt32), .val (.int kC.toInt32), .val (.int v3), .val (.int kC.toInt32), .val (.int v1), .val (.int kA.toInt32), .val (.int (-1 : Int32))] []))
        refine Go.st (fun _ => XS.iconst X323.here C.hx rfl (hb C.hby at_267)) ?_
        show Go p e below s n0 _ _ _ (T323.setTop (mkF m 268 #[.val (.int v1), .val (.int v2), .val (.int v3), .val (.int k1), .val (.int k2), .val (.int k3), .val (.ref b219), .val (.int kA.toInt32), .val (.int kB.toInt32), .val (.int v2), .val (.int kB.toInt32), .val (.int kB.toInt32), .val (.int (1 : Int32)), .val (.int v1), .val (.int kA.toInt32), .val (.int kC.toInt32), .val (.int v3), .val (.int kC.toInt32), .val (.int v1), .val (.int kA.toInt32), .val (.int (-1 : Int32))] [(.int (1 : Int32))]))
        refine Go.st (fun _ => XS.goto X323.here C.hx rfl (pc0 := 268) (pc' := 272) rfl (hb C.hby at_268) (by decide) (by decide)) ?_
        show Go p e below s n0 _ _ _ (T323.setTop (mkF m 272 #[.val (.int v1), .val (.int v2), .val (.int v3), .val (.int k1), .val (.int k2), .val (.int k3), .val (.ref b219), .val (.int kA.toInt32), .val (.int kB.toInt32), .val (.int v2), .val (.int kB.toInt32), .val (.int kB.toInt32), .val (.int (1 : Int32)), .val (.int v1), .val (.int kA.toInt32), .val (.int kC.toInt32), .val (.int v3), .val (.int kC.toInt32), .val (.int v1), .val (.int kA.toInt32), .val (.int (-1 : Int32))] [(.int (1 : Int32))]))
        exact Go.retZ C X323 (by decide) at_272 rfl (by decide) (by decide)
set_option maxRecDepth 65536 in
set_option maxHeartbeats 40000000 in
theorem comes_1 {Post : Tables → Env → Array Value → State → Outcome → State → Prop} (hpost : ∀ tb e args s v u, (limb_1_1.after args s (.returned v) u = true ∧ limb_1_2.after args s (.returned v) u = true ∧ True) → FrameEnd s (.returned v) u (Jvm.fieldLocs frame_1_writes args s ++ Jvm.arrayLocs frame_1_arrays args s ++ Jvm.staticLocs frame_1_statics s) 16 128 → Post tb e args s (.returned v) u) :
    ArmFor flags0 classFile x code maxLocals ret World_1 tables_1 room_1 Calls_1 rest_1 Pre_1 Post := by
  intro l hfl _ _ p e ha hc hk s m args below hf hA hF happ hP
  obtain ⟨hcalls, hrest, hpre⟩ := hP
  obtain ⟨-, -, -, hnamed, -, -, -, hat⟩ := (Spec.applies_iff hf).mp happ
  obtain ⟨hg, hn⟩ := and_e (Cond.before_iff.mp (show (Jvm.Cond.and given_1 narrow_1).before args s = true from hpre))
  obtain ⟨h1, hr0⟩ := and_e hg
  obtain ⟨ha0, hr1⟩ := and_e hr0
  obtain ⟨ha1, hr2⟩ := and_e hr1
  obtain ⟨ha2, hr3⟩ := and_e hr2
  obtain ⟨ha3, hr4⟩ := and_e hr3
  obtain ⟨ha4, hr5⟩ := and_e hr4
  have ha5 := hr5
  obtain ⟨w0, w1, w2, w3, w4, w5, rfl⟩ : ∃ w0 w1 w2 w3 w4 w5 : Value, args = #[w0, w1, w2, w3, w4, w5] := by
    have hs : args.size = 6 := by simpa [Cond.value, given_1] using h1
    obtain ⟨L⟩ := args
    match L, hs with
    | [w0, w1, w2, w3, w4, w5], _ => exact ⟨w0, w1, w2, w3, w4, w5, rfl⟩
  have hw := fun d (hd : d ∈ tables_1) => atoms_spec (ws := Jvm.Cond.code x code maxLocals ret :: tables_1) hat d (List.mem_cons_of_mem _ hd)
  obtain ⟨i0, e0⟩ := is_v ha0
  obtain rfl : w0 = (.int i0) := Option.some.inj e0
  obtain ⟨i1, e1⟩ := is_v ha1
  obtain rfl : w1 = (.int i1) := Option.some.inj e1
  obtain ⟨i2, e2⟩ := is_v ha2
  obtain rfl : w2 = (.int i2) := Option.some.inj e2
  obtain ⟨i3, e3⟩ := is_v ha3
  obtain rfl : w3 = (.int i3) := Option.some.inj e3
  obtain ⟨i4, e4⟩ := is_v ha4
  obtain rfl : w4 = (.int i4) := Option.some.inj e4
  obtain ⟨i5, e5⟩ := is_v ha5
  obtain rfl : w5 = (.int i5) := Option.some.inj e5
  obtain ⟨n, o, h1, h2, h3, _, L, rfl, ⟨rfl, N⟩, hq⟩ := con_law l s _ hw s.heap.size s.heap (Nat.le_refl _) i0 i1 i2 i3 i4 i5  p e ha hc hk s m _ below hf ((Spec.applies_iff_loose hf).mp happ).1 ⟨rfl, State.Warmed39.refl s, rfl⟩ trivial
  refine ⟨n, _, h1, h2, h3, hpost _ _ _ _ _ _ ⟨Cond.after_iff.mpr rfl, Cond.after_iff.mpr (eq_i res_at (Term.int_eval (1)) rfl), trivial⟩ ⟨hq.1, hq.2.1, (hq.2.2.sift fun y hy => Or.inr (N y hy)).mono (by decide) (by decide)⟩⟩
theorem main_1_1 : Claimed_1_1 := comes_1 fun _ _ _ _ _ _ h hF => ⟨h.1, hF⟩
theorem main_1_2 : Claimed_1_2 := comes_1 fun _ _ _ _ _ _ h hF => ⟨h.2.1, hF⟩
end Jvm.Pilot.@@N@@
namespace Jvm.Pilot.@@N@@
open Jvm Jvm.ClassFile Sem Op Lib Jvm.Free Jvm.Stand Jvm.Pilot.@@N@@.Jvm.D
/-! MADE BY PROGRAM (witnessworld.py) out of the Statement's table words and the real class files: 11 classes; the members and pool entries that the words name. The judged class is class 1, her method 2. -/
namespace start1
open Jvm.ClassFile
def u (s : String) : CpInfo := .utf8 (stringToUtf16 s)
/-- a pool by its gaps: so many unusable entries, then the entry; so many at the end -/
def gap : Nat → List CpInfo → List CpInfo
  | 0, r => r
  | n + 1, r => .unusable :: gap n r
def poolList (es : List (Nat × CpInfo)) (last : Nat) : List CpInfo := es.foldr (fun e r => gap e.1 (e.2 :: r)) (gap last [])
def pool (es : List (Nat × CpInfo)) (last : Nat) : Array CpInfo := ⟨poolList es last⟩
def fileOf (pool : Array CpInfo) (this : Nat) (attrs : Array Attribute := #[]) (ms : Array MethodInfo := #[]) (fl : Nat := 33) (sup : Nat := 0) (ifs : Array Nat := #[]) (fds : Array FieldInfo := #[]) : ClassFile where
  minorVersion := 0
  majorVersion := 65
  constantPool := pool
  accessFlags := fl
  thisClass := this
  superClass := sup
  interfaces := ifs
  fields := fds
  methods := ms
  attributes := attrs
def plain (name : String) (sup : Option ClassId) : Class where
  name := name
  kind := .ordinary
  loader := none
  accessFlags := 33
  super := sup
  interfaces := #[]
  cf := none
  fields := #[]
  methods := #[]
  instanceTypes := #[]
  staticTypes := #[]
  resolved := #[]
  callSites := []
  init := .initialized
  statics := none
  mirror := none

def pool0 : Array CpInfo := pool [(5, u "<init>"), (0, u "()V"), (1, .class_ 10), (1, u "java/lang/Object")] 113

def k0c0 : Code := { maxStack := 0, maxLocals := 1, code := object_method_1_code, exceptionTable := #[], attributes := #[] }
def k0m0 : Method := { name := "<init>", desc := "()V", sig := { parameters := [], returnType := none }, accessFlags := 1, code := some k0c0 }
/-- java/lang/Object -/
def k0 : Class := { plain "java/lang/Object" none with
  accessFlags := 33
  interfaces := #[]
  cf := some (fileOf pool0 8 #[] #[{ accessFlags := 1, nameIndex := 5, descriptorIndex := 6, attributes := #[] }] 33 0 #[] #[])
  fields := #[]
  methods := #[k0m0]
  instanceTypes := #[]
  staticTypes := #[]
  resolved := Array.replicate 124 none
  statics := none }

def pool1 : Array CpInfo := pool [(2, .class_ 4), (1, u "java/lang/Object"), (0, u "<init>"), (0, u "()V"), (0, .class_ 8), (0, u "com/example/layrd/layrd/layout/BucketQueue"), (0, .methodref 7 10), (0, .nameAndType 5 11), (0, u "(II)V"), (0, .methodref 7 13), (0, .nameAndType 14 11), (0, u "put"), (0, .methodref 7 16), (0, .nameAndType 17 18), (0, u "take"), (0, u "()I"), (0, .methodref 7 20), (0, .nameAndType 21 18), (0, u "key"), (0, .methodref 23 24), (0, .class_ 25), (0, .nameAndType 26 27), (0, u "java/lang/Math"), (0, u "min"), (0, u "(II)I"), (0, .methodref 29 30), (0, .class_ 31), (0, .nameAndType 32 33), (0, u "com/example/layrd/layrd/layout/BucketQueuePutPinLaw"), (0, u "pairOk"), (0, u "(IIIIIIII)Z"), (3, u "law"), (0, u "(IIIIII)Z")] 2

def k1m0 : Method := { name := "<init>", desc := "()V", sig := { parameters := [], returnType := none }, accessFlags := 1, code := none }
def k1c1 : Code := { maxStack := 2, maxLocals := 8, code := method_2_code, exceptionTable := #[], attributes := #[] }
def k1m1 : Method := { name := "pairOk", desc := "(IIIIIIII)Z", sig := { parameters := [.int, .int, .int, .int, .int, .int, .int, .int], returnType := some .boolean }, accessFlags := 10, code := some k1c1 }
def k1c2 : Code := { maxStack := 8, maxLocals := 21, code := code, exceptionTable := #[], attributes := #[] }
def k1m2 : Method := { name := "law", desc := "(IIIIII)Z", sig := { parameters := [.int, .int, .int, .int, .int, .int], returnType := some .boolean }, accessFlags := 9, code := some k1c2 }
/-- com/example/layrd/layrd/layout/BucketQueuePutPinLaw -/
def k1 : Class := { plain "com/example/layrd/layrd/layout/BucketQueuePutPinLaw" (some 0) with
  accessFlags := 49
  interfaces := #[]
  cf := some (fileOf pool1 29 #[] #[{ accessFlags := 1, nameIndex := 5, descriptorIndex := 6, attributes := #[] }, { accessFlags := 10, nameIndex := 32, descriptorIndex := 33, attributes := #[] }, { accessFlags := 9, nameIndex := 37, descriptorIndex := 38, attributes := #[] }] 49 2 #[] #[])
  fields := #[]
  methods := #[k1m0, k1m1, k1m2]
  instanceTypes := #[]
  staticTypes := #[]
  resolved := Array.replicate 41 none
  statics := none }

def pool2 : Array CpInfo := pool [(1, .methodref 2 3), (0, .class_ 4), (0, .nameAndType 5 6), (0, u "java/lang/Object"), (0, u "<init>"), (0, u "()V"), (0, .fieldref 8 9), (0, .class_ 10), (0, .nameAndType 11 12), (0, u "com/example/layrd/layrd/layout/BucketQueue"), (0, u "newest"), (0, u "[I"), (0, .fieldref 8 14), (0, .nameAndType 15 12), (0, u "node"), (0, .fieldref 8 17), (0, .nameAndType 18 12), (0, u "older"), (0, .methodref 8 20), (0, .nameAndType 21 6), (0, u "clear"), (0, .methodref 23 24), (0, .class_ 25), (0, .nameAndType 26 27), (0, u "java/util/Arrays"), (0, u "fill"), (0, u "([II)V"), (0, .fieldref 8 29), (0, .nameAndType 30 31), (0, u "entries"), (0, u "I"), (0, .fieldref 8 33), (0, .nameAndType 34 31), (0, u "key"), (0, u "(II)V"), (3, u "()I"), (0, u "put"), (0, u "take")] 3

def k2c0 : Code := { maxStack := 3, maxLocals := 3, code := prog_57_method_1_code, exceptionTable := #[], attributes := #[] }
def k2m0 : Method := { name := "<init>", desc := "(II)V", sig := { parameters := [.int, .int], returnType := none }, accessFlags := 0, code := some k2c0 }
def k2c1 : Code := { maxStack := 2, maxLocals := 1, code := prog_57_method_2_code, exceptionTable := #[], attributes := #[] }
def k2m1 : Method := { name := "clear", desc := "()V", sig := { parameters := [], returnType := none }, accessFlags := 0, code := some k2c1 }
def k2c2 : Code := { maxStack := 6, maxLocals := 3, code := prog_57_method_4_code, exceptionTable := #[], attributes := #[] }
def k2m2 : Method := { name := "put", desc := "(II)V", sig := { parameters := [.int, .int], returnType := none }, accessFlags := 0, code := some k2c2 }
def k2c3 : Code := { maxStack := 4, maxLocals := 2, code := prog_57_method_5_code, exceptionTable := #[], attributes := #[] }
def k2m3 : Method := { name := "take", desc := "()I", sig := { parameters := [], returnType := some .int }, accessFlags := 0, code := some k2c3 }
def k2c4 : Code := { maxStack := 1, maxLocals := 1, code := prog_57_method_6_code, exceptionTable := #[], attributes := #[] }
def k2m4 : Method := { name := "key", desc := "()I", sig := { parameters := [], returnType := some .int }, accessFlags := 0, code := some k2c4 }
/-- com/example/layrd/layrd/layout/BucketQueue -/
def k2 : Class := { plain "com/example/layrd/layrd/layout/BucketQueue" (some 0) with
  accessFlags := 48
  interfaces := #[]
  cf := some (fileOf pool2 8 #[] #[{ accessFlags := 0, nameIndex := 5, descriptorIndex := 35, attributes := #[] }, { accessFlags := 0, nameIndex := 21, descriptorIndex := 6, attributes := #[] }, { accessFlags := 0, nameIndex := 40, descriptorIndex := 35, attributes := #[] }, { accessFlags := 0, nameIndex := 41, descriptorIndex := 39, attributes := #[] }, { accessFlags := 0, nameIndex := 34, descriptorIndex := 39, attributes := #[] }] 48 2 #[] #[{ accessFlags := 18, nameIndex := 11, descriptorIndex := 12, attributes := #[] }, { accessFlags := 18, nameIndex := 15, descriptorIndex := 12, attributes := #[] }, { accessFlags := 18, nameIndex := 18, descriptorIndex := 12, attributes := #[] }, { accessFlags := 2, nameIndex := 30, descriptorIndex := 31, attributes := #[] }, { accessFlags := 2, nameIndex := 34, descriptorIndex := 31, attributes := #[] }])
  fields := #[{ name := "newest", type := (.array .int), accessFlags := 18, slot := 0, constantValue := 0 }, { name := "node", type := (.array .int), accessFlags := 18, slot := 1, constantValue := 0 }, { name := "older", type := (.array .int), accessFlags := 18, slot := 2, constantValue := 0 }, { name := "entries", type := .int, accessFlags := 2, slot := 3, constantValue := 0 }, { name := "key", type := .int, accessFlags := 2, slot := 4, constantValue := 0 }]
  methods := #[k2m0, k2m1, k2m2, k2m3, k2m4]
  instanceTypes := #[(.array .int), (.array .int), (.array .int), .int, .int]
  staticTypes := #[]
  resolved := Array.replicate 45 none
  statics := none }

def pool3 : Array CpInfo := pool [(2, .class_ 4), (1, u "java/lang/Object"), (0, u "<init>"), (0, u "()V"), (7, .class_ 16), (1, u "java/util/Arrays"), (57, .class_ 76), (1, u "java/util/Arrays$NaturalOrder"), (36, .class_ 115), (1, u "java/util/Arrays$LegacyMergeSort"), (1, u "Z"), (257, .class_ 376), (0, u "java/util/Arrays$ArrayList"), (68, u "$assertionsDisabled"), (269, u "MIN_ARRAY_SORT_GRAN"), (0, u "I"), (2, u "INSERTIONSORT_THRESHOLD"), (120, u "fill"), (4, u "([II)V"), (129, .class_ 976), (0, u "java/util/Arrays$ArrayItr")] 52

def k3m0 : Method := { name := "<init>", desc := "()V", sig := { parameters := [], returnType := none }, accessFlags := 2, code := none }
def k3c1 : Code := { maxStack := 3, maxLocals := 4, code := jdk_65_method_103_code, exceptionTable := #[], attributes := #[] }
def k3m1 : Method := { name := "fill", desc := "([II)V", sig := { parameters := [(.array .int), .int], returnType := none }, accessFlags := 9, code := some k3c1 }
/-- java/util/Arrays -/
def k3 : Class := { plain "java/util/Arrays" (some 0) with
  accessFlags := 49
  interfaces := #[]
  cf := some (fileOf pool3 14 #[.nestMembers #[975, 375, 113, 74]] #[{ accessFlags := 2, nameIndex := 5, descriptorIndex := 6, attributes := #[] }, { accessFlags := 9, nameIndex := 840, descriptorIndex := 845, attributes := #[] }] 49 2 #[] #[{ accessFlags := 26, nameIndex := 715, descriptorIndex := 716, attributes := #[] }, { accessFlags := 26, nameIndex := 719, descriptorIndex := 716, attributes := #[] }, { accessFlags := 4120, nameIndex := 445, descriptorIndex := 117, attributes := #[] }])
  fields := #[{ name := "MIN_ARRAY_SORT_GRAN", type := .int, accessFlags := 26, slot := 0, constantValue := 0 }, { name := "INSERTIONSORT_THRESHOLD", type := .int, accessFlags := 26, slot := 1, constantValue := 0 }, { name := "$assertionsDisabled", type := .boolean, accessFlags := 4120, slot := 2, constantValue := 0 }]
  methods := #[k3m0, k3m1]
  instanceTypes := #[]
  staticTypes := #[.int, .int, .boolean]
  resolved := Array.replicate 1029 none
  statics := none }

def pool4 : Array CpInfo := pool [(1, .class_ 2), (0, u "java/lang/Math"), (1, .class_ 6), (1, u "java/lang/Object"), (0, u "<init>"), (0, u "()V"), (89, .class_ 100), (1, u "java/lang/Math$RandomNumberGeneratorHolder"), (71, u "negativeZeroFloatBits"), (0, u "J"), (2, u "negativeZeroDoubleBits"), (24, u "min"), (43, u "$assertionsDisabled"), (0, u "Z"), (88, u "(II)I"), (2, u "twoToTheDoubleScaleDown"), (0, u "D"), (4, u "twoToTheDoubleScaleUp"), (9, u "E"), (3, u "PI"), (2, u "TAU"), (2, u "DEGREES_TO_RADIANS"), (0, u "RADIANS_TO_DEGREES")] 94

def k4m0 : Method := { name := "<init>", desc := "()V", sig := { parameters := [], returnType := none }, accessFlags := 2, code := none }
def k4c1 : Code := { maxStack := 2, maxLocals := 2, code := jdk_29_method_69_code, exceptionTable := #[], attributes := #[] }
def k4m1 : Method := { name := "min", desc := "(II)I", sig := { parameters := [.int, .int], returnType := some .int }, accessFlags := 9, code := some k4c1 }
/-- java/lang/Math -/
def k4 : Class := { plain "java/lang/Math" (some 0) with
  accessFlags := 49
  interfaces := #[]
  cf := some (fileOf pool4 1 #[.nestMembers #[98]] #[{ accessFlags := 2, nameIndex := 7, descriptorIndex := 8, attributes := #[] }, { accessFlags := 9, nameIndex := 201, descriptorIndex := 335, attributes := #[] }] 49 4 #[] #[{ accessFlags := 25, nameIndex := 354, descriptorIndex := 339, attributes := #[] }, { accessFlags := 25, nameIndex := 358, descriptorIndex := 339, attributes := #[] }, { accessFlags := 25, nameIndex := 361, descriptorIndex := 339, attributes := #[] }, { accessFlags := 26, nameIndex := 364, descriptorIndex := 339, attributes := #[] }, { accessFlags := 26, nameIndex := 365, descriptorIndex := 339, attributes := #[] }, { accessFlags := 26, nameIndex := 172, descriptorIndex := 173, attributes := #[] }, { accessFlags := 26, nameIndex := 176, descriptorIndex := 173, attributes := #[] }, { accessFlags := 8, nameIndex := 344, descriptorIndex := 339, attributes := #[] }, { accessFlags := 8, nameIndex := 338, descriptorIndex := 339, attributes := #[] }, { accessFlags := 4120, nameIndex := 245, descriptorIndex := 246, attributes := #[] }])
  fields := #[{ name := "E", type := .double, accessFlags := 25, slot := 0, constantValue := 0 }, { name := "PI", type := .double, accessFlags := 25, slot := 1, constantValue := 0 }, { name := "TAU", type := .double, accessFlags := 25, slot := 2, constantValue := 0 }, { name := "DEGREES_TO_RADIANS", type := .double, accessFlags := 26, slot := 3, constantValue := 0 }, { name := "RADIANS_TO_DEGREES", type := .double, accessFlags := 26, slot := 4, constantValue := 0 }, { name := "negativeZeroFloatBits", type := .long, accessFlags := 26, slot := 5, constantValue := 0 }, { name := "negativeZeroDoubleBits", type := .long, accessFlags := 26, slot := 6, constantValue := 0 }, { name := "twoToTheDoubleScaleUp", type := .double, accessFlags := 8, slot := 7, constantValue := 0 }, { name := "twoToTheDoubleScaleDown", type := .double, accessFlags := 8, slot := 8, constantValue := 0 }, { name := "$assertionsDisabled", type := .boolean, accessFlags := 4120, slot := 9, constantValue := 0 }]
  methods := #[k4m0, k4m1]
  instanceTypes := #[]
  staticTypes := #[.double, .double, .double, .double, .double, .long, .long, .double, .double, .boolean]
  resolved := Array.replicate 460 none
  statics := none }

def pool5 : Array CpInfo := pool [(1, u "java/lang/Cloneable"), (0, .class_ 1), (0, u "java/lang/Object"), (0, .class_ 3)] 3

/-- java/lang/Cloneable -/
def k5 : Class := { plain "java/lang/Cloneable" (some 0) with
  accessFlags := 1537
  interfaces := #[]
  cf := some (fileOf pool5 2 #[] #[] 1537 4 #[] #[])
  fields := #[]
  methods := #[]
  instanceTypes := #[]
  staticTypes := #[]
  resolved := Array.replicate 8 none
  statics := none }

def pool6 : Array CpInfo := pool [(1, u "java/io/Serializable"), (0, .class_ 1), (0, u "java/lang/Object"), (0, .class_ 3)] 3

/-- java/io/Serializable -/
def k6 : Class := { plain "java/io/Serializable" (some 0) with
  accessFlags := 1537
  interfaces := #[]
  cf := some (fileOf pool6 2 #[] #[] 1537 4 #[] #[])
  fields := #[]
  methods := #[]
  instanceTypes := #[]
  staticTypes := #[]
  resolved := Array.replicate 8 none
  statics := none }

/-- the primitive byte -/
def k7 : Class := { plain "byte" none with kind := .primitive 'B', accessFlags := 0x411 }
/-- [B -/
def k8 : Class := { plain "[B" (some 0) with kind := .array 7 .byte, interfaces := #[5, 6], accessFlags := 1041 }

/-- the primitive int -/
def k9 : Class := { plain "int" none with kind := .primitive 'I', accessFlags := 0x411 }
/-- [I -/
def k10 : Class := { plain "[I" (some 0) with kind := .array 9 .int, interfaces := #[5, 6], accessFlags := 1041 }

def heap : Heap := #[]
def classes : Array Class := #[k0, k1, k2, k3, k4, k5, k6, k7, k8, k9, k10]
def interned : List (Array UInt16 × Addr) := []
def slotsUsed : Nat := 0
def theMethod : MethodId := ⟨1, 2⟩
def args0 : Array Value := #[.int 3, .int 2, .int 5, .int 2, .int 3, .int 1]
def aboutOver (below : List Frame) : State where
  vm := { classes := classes, interned := interned.toArray }
  heap := heap
  slotsUsed := slotsUsed
  threads := #[{ frames := .invoking theMethod args0 :: below }]
def below0 : List Frame := [.native { method := ⟨0, 0⟩, args := #[] }]
def about1 : State := aboutOver below0
def p0 : Program := .bare "" "" ""
def e0 : Env := launch0.env 0 0 0
theorem w_frames : about1.frames = Frame.invoking theMethod args0 :: below0 := rfl
set_option maxRecDepth 65536 in
theorem w_args : argsFit about1.vm theMethod args0 = true := by decide +kernel
set_option maxRecDepth 65536 in
theorem w_heap : heapFits about1 = true := by decide +kernel
set_option maxRecDepth 65536 in
theorem w_runnable : about1.curStatus? = some .runnable := by decide +kernel
set_option maxRecDepth 65536 in
theorem w_alone : about1.alone = true := by decide +kernel
set_option maxRecDepth 65536 in
theorem w_named : about1.methodNamed? x = some theMethod := by decide +kernel
set_option maxRecDepth 65536 in
theorem w_hears : about1.hears theMethod below0 = true := by decide +kernel
set_option maxRecDepth 65536 in
theorem w_ripe : about1.ripe theMethod args0 below0 = true := by decide +kernel
theorem w_running : about1.status = .running := rfl
set_option maxRecDepth 65536 in
theorem w_room : about1.hasRoom e0.platform room_1 = true :=
  launch0.hasRoom_least _ room_1 (by decide +kernel) (by decide +kernel) (by decide +kernel) (by decide +kernel) (by decide +kernel) (by decide +kernel)
theorem allAtoms_all (ts : List Jvm.Cond) (a : Array Jvm.Value) (st : Jvm.State) : (allAtoms ts).before a st = ts.all (fun c => c.before a st) := by
  induction ts with
  | nil => rfl
  | cons c t ih =>
    show (Jvm.Cond.and c (allAtoms t)).before a st = _
    rw [Jvm.Cond.before_and, ih, List.all_cons]
def words1 : List Jvm.Cond := Jvm.Cond.code x code maxLocals ret :: tables_1
/-- a 'code' word, met by the world's own term for the bytes: nothing is compared byte by byte -/
theorem code_word {y : MethodName} {bytes : ByteArray} {mx : Nat} {rt : Option FieldType} {a : Array Value} {s : State} {m : MethodId} {meth : Method} {c : Code} (h1 : s.methodNamed? y = some m) (h2 : s.vm.method? m = some meth) (h3 : meth.code = some c) (h4 : c.code = bytes)
    (h5 : (c.maxLocals == mx && c.exceptionTable.isEmpty && decide (c.maxStack ≤ mostOperands) && decide (meth.sig.returnType = rt) && !meth.locks && decide (parseMethodDescriptor y.desc = some meth.sig)) = true) : (Jvm.Cond.code y bytes mx rt).before a s = true := by
  simp only [Bool.and_eq_true, beq_iff_eq, Bool.not_eq_true', decide_eq_true_eq] at h5
  obtain ⟨⟨⟨⟨⟨g1, g2⟩, g3⟩, g4⟩, g5⟩, g6⟩ := h5
  simp [Cond.before, Cond.holds, Cond.value, h1, h2, h3, h4, g1, g2, g3, g4, g5, g6]
def isCode : Jvm.Cond → Bool
  | .code _ _ _ _ => true
  | _ => false
theorem all_split {L : List Jvm.Cond} {P : Jvm.Cond → Bool} (h1 : L.all (fun c => isCode c || P c) = true) (h2 : ∀ c ∈ L.filter isCode, P c = true) : L.all P = true := by
  refine List.all_eq_true.mpr fun c hc => ?_
  have h := List.all_eq_true.mp h1 c hc
  rcases Bool.eq_false_or_eq_true (isCode c) with hi | hi
  · exact h2 c (List.mem_filter.mpr ⟨hc, hi⟩)
  · simpa [hi] using h
set_option maxRecDepth 65536 in
theorem w_c0 : (Jvm.Cond.code x code maxLocals ret).before args0 about1 = true := code_word (m := ⟨1, 2⟩) (meth := k1m2) (c := k1c2) (by decide +kernel) rfl rfl rfl (by decide +kernel)
set_option maxRecDepth 65536 in
theorem w_c1 : (Jvm.Cond.code ({ cls := "com/example/layrd/layrd/layout/BucketQueue", name := "<init>", desc := "(II)V" } : Jvm.MethodName) prog_57_method_1_code (3 : Nat) (Option.none : Option Jvm.ClassFile.FieldType)).before args0 about1 = true := code_word (m := ⟨2, 0⟩) (meth := k2m0) (c := k2c0) (by decide +kernel) rfl rfl rfl (by decide +kernel)
set_option maxRecDepth 65536 in
theorem w_c2 : (Jvm.Cond.code ({ cls := "java/lang/Object", name := "<init>", desc := "()V" } : Jvm.MethodName) object_method_1_code (1 : Nat) (Option.none : Option Jvm.ClassFile.FieldType)).before args0 about1 = true := code_word (m := ⟨0, 0⟩) (meth := k0m0) (c := k0c0) (by decide +kernel) rfl rfl rfl (by decide +kernel)
set_option maxRecDepth 65536 in
theorem w_c3 : (Jvm.Cond.code ({ cls := "com/example/layrd/layrd/layout/BucketQueue", name := "clear", desc := "()V" } : Jvm.MethodName) prog_57_method_2_code (1 : Nat) (Option.none : Option Jvm.ClassFile.FieldType)).before args0 about1 = true := code_word (m := ⟨2, 1⟩) (meth := k2m1) (c := k2c1) (by decide +kernel) rfl rfl rfl (by decide +kernel)
set_option maxRecDepth 65536 in
theorem w_c4 : (Jvm.Cond.code ({ cls := "java/util/Arrays", name := "fill", desc := "([II)V" } : Jvm.MethodName) jdk_65_method_103_code (4 : Nat) (Option.none : Option Jvm.ClassFile.FieldType)).before args0 about1 = true := code_word (m := ⟨3, 1⟩) (meth := k3m1) (c := k3c1) (by decide +kernel) rfl rfl rfl (by decide +kernel)
set_option maxRecDepth 65536 in
theorem w_c5 : (Jvm.Cond.code ({ cls := "com/example/layrd/layrd/layout/BucketQueue", name := "put", desc := "(II)V" } : Jvm.MethodName) prog_57_method_4_code (3 : Nat) (Option.none : Option Jvm.ClassFile.FieldType)).before args0 about1 = true := code_word (m := ⟨2, 2⟩) (meth := k2m2) (c := k2c2) (by decide +kernel) rfl rfl rfl (by decide +kernel)
set_option maxRecDepth 65536 in
theorem w_c6 : (Jvm.Cond.code ({ cls := "com/example/layrd/layrd/layout/BucketQueue", name := "take", desc := "()I" } : Jvm.MethodName) prog_57_method_5_code (2 : Nat) (Option.some Jvm.ClassFile.FieldType.int)).before args0 about1 = true := code_word (m := ⟨2, 3⟩) (meth := k2m3) (c := k2c3) (by decide +kernel) rfl rfl rfl (by decide +kernel)
set_option maxRecDepth 65536 in
theorem w_c7 : (Jvm.Cond.code ({ cls := "com/example/layrd/layrd/layout/BucketQueue", name := "key", desc := "()I" } : Jvm.MethodName) prog_57_method_6_code (1 : Nat) (Option.some Jvm.ClassFile.FieldType.int)).before args0 about1 = true := code_word (m := ⟨2, 4⟩) (meth := k2m4) (c := k2c4) (by decide +kernel) rfl rfl rfl (by decide +kernel)
set_option maxRecDepth 65536 in
theorem w_c8 : (Jvm.Cond.code ({ cls := "java/lang/Math", name := "min", desc := "(II)I" } : Jvm.MethodName) jdk_29_method_69_code (2 : Nat) (Option.some Jvm.ClassFile.FieldType.int)).before args0 about1 = true := code_word (m := ⟨4, 1⟩) (meth := k4m1) (c := k4c1) (by decide +kernel) rfl rfl rfl (by decide +kernel)
set_option maxRecDepth 65536 in
theorem w_c9 : (Jvm.Cond.code ({ cls := "com/example/layrd/layrd/layout/BucketQueuePutPinLaw", name := "pairOk", desc := "(IIIIIIII)Z" } : Jvm.MethodName) method_2_code (8 : Nat) (Option.some Jvm.ClassFile.FieldType.boolean)).before args0 about1 = true := code_word (m := ⟨1, 1⟩) (meth := k1m1) (c := k1c1) (by decide +kernel) rfl rfl rfl (by decide +kernel)
def codes1 : List Jvm.Cond := [Jvm.Cond.code x code maxLocals ret, Jvm.Cond.code ({ cls := "com/example/layrd/layrd/layout/BucketQueue", name := "<init>", desc := "(II)V" } : Jvm.MethodName) prog_57_method_1_code (3 : Nat) (Option.none : Option Jvm.ClassFile.FieldType), Jvm.Cond.code ({ cls := "java/lang/Object", name := "<init>", desc := "()V" } : Jvm.MethodName) object_method_1_code (1 : Nat) (Option.none : Option Jvm.ClassFile.FieldType), Jvm.Cond.code ({ cls := "com/example/layrd/layrd/layout/BucketQueue", name := "clear", desc := "()V" } : Jvm.MethodName) prog_57_method_2_code (1 : Nat) (Option.none : Option Jvm.ClassFile.FieldType), Jvm.Cond.code ({ cls := "java/util/Arrays", name := "fill", desc := "([II)V" } : Jvm.MethodName) jdk_65_method_103_code (4 : Nat) (Option.none : Option Jvm.ClassFile.FieldType), Jvm.Cond.code ({ cls := "com/example/layrd/layrd/layout/BucketQueue", name := "put", desc := "(II)V" } : Jvm.MethodName) prog_57_method_4_code (3 : Nat) (Option.none : Option Jvm.ClassFile.FieldType), Jvm.Cond.code ({ cls := "com/example/layrd/layrd/layout/BucketQueue", name := "take", desc := "()I" } : Jvm.MethodName) prog_57_method_5_code (2 : Nat) (Option.some Jvm.ClassFile.FieldType.int), Jvm.Cond.code ({ cls := "com/example/layrd/layrd/layout/BucketQueue", name := "key", desc := "()I" } : Jvm.MethodName) prog_57_method_6_code (1 : Nat) (Option.some Jvm.ClassFile.FieldType.int), Jvm.Cond.code ({ cls := "java/lang/Math", name := "min", desc := "(II)I" } : Jvm.MethodName) jdk_29_method_69_code (2 : Nat) (Option.some Jvm.ClassFile.FieldType.int), Jvm.Cond.code ({ cls := "com/example/layrd/layrd/layout/BucketQueuePutPinLaw", name := "pairOk", desc := "(IIIIIIII)Z" } : Jvm.MethodName) method_2_code (8 : Nat) (Option.some Jvm.ClassFile.FieldType.boolean)]
set_option maxRecDepth 65536 in
theorem codes_eq : words1.filter isCode = codes1 := rfl
theorem w_codes : ∀ c ∈ words1.filter isCode, c.before args0 about1 = true := by
  rw [codes_eq]
  intro c hc
  simp only [codes1, List.mem_cons, List.not_mem_nil, or_false] at hc
  rcases hc with rfl | rfl | rfl | rfl | rfl | rfl | rfl | rfl | rfl | rfl
  · exact w_c0
  · exact w_c1
  · exact w_c2
  · exact w_c3
  · exact w_c4
  · exact w_c5
  · exact w_c6
  · exact w_c7
  · exact w_c8
  · exact w_c9
set_option maxRecDepth 65536 in
theorem w_t1 : (words1.take 24).all (fun c => isCode c || c.before args0 about1) = true := by decide +kernel
set_option maxRecDepth 65536 in
theorem w_t2 : ((words1.drop 24).take 24).all (fun c => isCode c || c.before args0 about1) = true := by decide +kernel
set_option maxRecDepth 65536 in
theorem w_t3 : ((words1.drop 24).drop 24).all (fun c => isCode c || c.before args0 about1) = true := by decide +kernel
theorem w_tables : (allAtoms (Jvm.Cond.code x code maxLocals ret :: tables_1)).before args0 about1 = true := by
  rw [allAtoms_all]
  show words1.all (fun c => c.before args0 about1) = true
  refine all_split ?_ w_codes
  rw [← List.take_append_drop 24 words1, List.all_append, w_t1, ← List.take_append_drop 24 (words1.drop 24), List.all_append, w_t2, w_t3]
  rfl
set_option maxRecDepth 65536 in
theorem w_case : (Jvm.Cond.and given_1 narrow_1).before args0 about1 = true := by decide +kernel
theorem w_applies : (headSpec (Jvm.Cond.code x code maxLocals ret :: tables_1) room_1).applies x e0.platform about1 = true :=
  (Spec.applies_iff w_frames).mpr ⟨w_running, w_runnable, w_alone, w_named, w_hears, w_ripe, w_room, w_tables⟩
theorem atStart : AtStart classFile x code maxLocals ret World_1 tables_1 room_1 Calls_1 rest_1 Pre_1 launch0 p0 e0 about1 theMethod args0 below0 :=
  ⟨lists_1, trivial, launch0.admits_env _ _ _, launch0.least_env, fairChoices_fair.cas, fairChoices_fair.clock, w_frames, w_args, w_heap, w_applies, trivial, trivial, w_case⟩
end start1
theorem witness_1 : WitnessClaimed_1 := ⟨start1.p0, start1.e0, start1.about1, start1.theMethod, start1.args0, start1.below0, start1.atStart⟩
end Jvm.Pilot.@@N@@

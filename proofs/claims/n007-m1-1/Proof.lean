import JvmDerived
import JvmDerived.Pilot.@@N@@Statement
import JvmDerived.Pilot.@@N@@Code
set_option linter.unusedVariables false
set_option linter.unusedSimpArgs false
namespace Jvm.OwnGo
open Jvm Jvm.ClassFile Sem Op Lib Jvm.Free Jvm.Stand Jvm.LawKit Jvm.RoadKit Bundle
/-- from A the invocation ends and returns what Q takes; what was written lies at n0 or above -/
def Go (p : Program) (e : Env) (below : List Frame) (s : State) (n0 k n : Nat) (Q : Option Value → Heap → Prop) (A : State) : Prop :=
  ∃ t o, Steps p.tables e below A t ∧ t.status = .running ∧ Ended t below o ∧ ∃ v L, o = .returned v ∧ (Q v t.heap ∧ Fr n0 L) ∧ FrameEnd s o t L k n
/-- what stays as it is through a walk -/
def Ctx (p : Program) (s : State) (m : MethodId) (meth : Method) (c : Code) (Z : State) (a0 : Array Value) (ws : List Jvm.Cond) (own nm : String) (bytes : ByteArray) (ml : Nat) (ret : Option FieldType) : Prop :=
  p.tables.exec = Jvm.exec ∧ Z.Warmed39 s.vm ∧ (∀ d ∈ ws, d.before a0 Z = true) ∧ s.vm.findClass own = some m.cls ∧ meth.name = nm ∧ c.code = bytes ∧ c.maxLocals = ml ∧ meth.sig.returnType = ret ∧ meth.locks = false
/-- where a walk stands -/
def St (p : Program) (l : Launch) (e : Env) (R : Room) (s : State) (m : MethodId) (args : Array Value) (below : List Frame) (meth : Method) (c : Code) (n0 : Nat) (T : State) (h : Heap) (cells slots : Nat) : Prop :=
  T.heap = h ∧ n0 ≤ s.heap.size ∧ ∃ locs, Fr n0 locs ∧ Stand p l e R s m args below meth c T locs cells slots
/-- an array: its elements, one by one -/
def AR (Z : State) (h : Heap) (a : Addr) (ty : FieldType) (vs : List Value) : Prop := ∃ c : Cell, Arr Z h a c ty ∧ c.slots = vs.toArray ∧ vs.length < 2 ^ 31
/-- a method's contract at one heap -/
def Con (l : Launch) (Z : State) (y : MethodName) (bytes : ByteArray) (ml : Nat) (ret : Option FieldType) (wx : List Jvm.Cond) (rm : Room) (n0 : Nat) (as : Array Value) (h0 : Heap) (Q : Option Value → Heap → Prop) : Prop :=
  MetFree l y (head1 (Jvm.Cond.code y bytes ml ret :: wx) rm) (fun a U => a = as ∧ Z.Warmed39 U.vm ∧ U.heap = h0) (fun _ _ _ _ _ => True) (fun _ U o U' => ∃ v L, o = .returned v ∧ (Q v U'.heap ∧ Fr n0 L) ∧ FrameEnd U o U' L rm.cells rm.slots)
section One
variable {p : Program} {l : Launch} {e : Env} {R : Room} {s : State} {m : MethodId} {args : Array Value} {below : List Frame} {meth : Method} {c : Code} {T : State} {h h' : Heap} {n0 cells slots k n : Nat} {Q : Option Value → Heap → Prop} {A B Z : State} {a0 : Array Value} {ws : List Jvm.Cond} {own nm : String} {bytes : ByteArray} {ml pc : Nat} {ret : Option FieldType} {Ls : Array Slot} {rest stk : List Value}
def ius (x y : Int32) : Int32 := (x.toUInt32 >>> (y &&& 31).toUInt32).toInt32
def lus (x : Int64) (y : Int32) : Int64 := (x.toUInt64 >>> (y &&& 0x3f).toInt64.toUInt64).toInt64
theorem tm0 (x d : Int) : x.tmod d = 0 ↔ x % d = 0 := ⟨fun h => Int.emod_eq_zero_of_dvd (Int.dvd_of_tmod_eq_zero h), fun h => Int.tmod_eq_zero_of_dvd (Int.dvd_of_emod_eq_zero h)⟩
theorem irr (x : Int32) : ¬ x < x := by rw [Int32.lt_iff_toInt_lt]; omega
theorem wd {ws : List Jvm.Cond} (i : Nat) {d : Jvm.Cond} (q : ws[i]? = some d) : d ∈ ws := List.mem_of_getElem? q
theorem Ctx.hx (C : Ctx p s m meth c Z a0 ws own nm bytes ml ret) : p.tables.exec = Jvm.exec := C.1
theorem Ctx.hZ (C : Ctx p s m meth c Z a0 ws own nm bytes ml ret) : Z.Warmed39 s.vm := C.2.1
theorem Ctx.w (C : Ctx p s m meth c Z a0 ws own nm bytes ml ret) {d : Jvm.Cond} (q : d ∈ ws) : d.before a0 Z = true := C.2.2.1 d q
theorem Ctx.hown (C : Ctx p s m meth c Z a0 ws own nm bytes ml ret) : s.vm.findClass own = some m.cls := C.2.2.2.1
theorem Ctx.hnm (C : Ctx p s m meth c Z a0 ws own nm bytes ml ret) : meth.name = nm := C.2.2.2.2.1
theorem Ctx.hby (C : Ctx p s m meth c Z a0 ws own nm bytes ml ret) : c.code = bytes := C.2.2.2.2.2.1
theorem Ctx.hml (C : Ctx p s m meth c Z a0 ws own nm bytes ml ret) : c.maxLocals = ml := C.2.2.2.2.2.2.1
theorem Ctx.hret (C : Ctx p s m meth c Z a0 ws own nm bytes ml ret) : meth.sig.returnType = ret := C.2.2.2.2.2.2.2.1
theorem Ctx.hlk (C : Ctx p s m meth c Z a0 ws own nm bytes ml ret) : meth.locks = false := C.2.2.2.2.2.2.2.2
theorem St.here (X : St p l e R s m args below meth c n0 T h cells slots) : At T m c below := by obtain ⟨-, -, _, -, X⟩ := X; exact X.here
theorem St.size (X : St p l e R s m args below meth c n0 T h cells slots) : n0 ≤ h.size := by
  obtain ⟨rfl, hz, _, -, X⟩ := X
  exact Nat.le_trans hz X.same.2.1
theorem St.mono (X : St p l e R s m args below meth c n0 T h cells slots) {cells' slots' : Nat} (h1 : cells ≤ cells') (h2 : slots ≤ slots') : St p l e R s m args below meth c n0 T h cells' slots' := by
  obtain ⟨e0, hz, locs, N, X⟩ := X
  exact ⟨e0, hz, locs, N, { X with same := X.same.mono h1 h2 }⟩
theorem Go.st (q : ∀ t, Steps p.tables e below B t → Steps p.tables e below A t) (g : Go p e below s n0 k n Q B) : Go p e below s n0 k n Q A := by
  obtain ⟨t, o, h1, r⟩ := g
  exact ⟨t, o, q t h1, r⟩
theorem Go.tr (q : Steps p.tables e below A B) (g : Go p e below s n0 k n Q B) : Go p e below s n0 k n Q A := Go.st (fun _ r => q.trans r) g
theorem Con.mk {y : MethodName} {wx : List Jvm.Cond} {rm : Room} {as : Array Value} {h0 : Heap} (hp : plainFor y = true) (hw : ∀ d ∈ ws, d.before a0 Z = true) (hz : n0 ≤ h0.size)
    (H : ∀ (p : Program) (e : Env) (s : State) (m : MethodId) (below : List Frame) (meth : Method) (c : Code) (T : State), Ctx p s m meth c Z a0 ws y.cls y.name bytes ml ret → St p l e rm s m as below meth c n0 T h0 0 0 → Go p e below s n0 rm.cells rm.slots Q (T.setTop (entryFrame m as ml))) : Con l Z y bytes ml ret wx rm n0 as h0 Q := by
  refine MetFree.of_bodySF hp hisR ?_
  intro p e s m args below meth c s₁ Bd hml hP hK
  obtain ⟨rfl, hZ, hh⟩ := hP
  have hE : s₁.heap = h0 := by rw [← hh, Bd.state]; rfl
  exact H p e s m below meth c s₁ ⟨Bd.exec, hZ, hw, findClass_of_methodNamed Bd.named, (name_of_methodNamed Bd.named Bd.method).1, Bd.bytes, hml, Bd.returns, BodyLoose.notSynchronized Bd⟩ ⟨hE, by rw [hh]; exact hz, [], Fr.nil n0, Stand.of_body Bd⟩
theorem Go.retAny (C : Ctx p s m meth c Z a0 ws own nm bytes ml ret) (X : St p l e R s m args below meth c n0 T h cells slots) {w : Value} {t : FieldType} {i : Instr} (hret : ret = some t) (hn : narrow t w = w)
    (hi : (i = .ireturn ∧ (t = .int ∨ t = .boolean ∨ t = .byte ∨ t = .char ∨ t = .short) ∧ ∃ z, w = .int z) ∨ (i = .lreturn ∧ t = .long ∧ ∃ z, w = .long z) ∨ (i = .dreturn ∧ t = .double ∧ ∃ z, w = .double z) ∨ (i = .freturn ∧ t = .float ∧ ∃ z, w = .float z) ∨ (i = .areturn ∧ t.isReference = true ∧ w.isRef = true))
    (hd : decode bytes pc = .ok (i, 1)) (hQ : Q (some w) h) (hk : cells ≤ k) (hs : slots ≤ n) : Go p e below s n0 k n Q (T.setTop (mkF m pc Ls (w :: rest))) := by
  obtain ⟨rfl, hz, locs, N, X⟩ := X
  obtain ⟨fs, hr, hrun, hended, hW, hsame⟩ := X.leave (v := some w) (fun q => by rw [C.hret, hret] at q; cases q) C.hlk
  exact ⟨_, _, retOut X C.hx (C.hret.trans hret) hn hi (hb C.hby hd) hr, hrun, hended, _, _, rfl, ⟨hQ, N⟩, ⟨_, rfl⟩, hW, hsame.mono hk hs⟩
theorem Go.retI (C : Ctx p s m meth c Z a0 ws own nm bytes ml (some .int)) (X : St p l e R s m args below meth c n0 T h cells slots) {z : Int32} (hd : decode bytes pc = .ok (.ireturn, 1)) (hQ : Q (some (.int z)) h) (hk : cells ≤ k) (hs : slots ≤ n) : Go p e below s n0 k n Q (T.setTop (mkF m pc Ls (.int z :: rest))) :=
  Go.retAny C X rfl rfl (Or.inl ⟨rfl, Or.inl rfl, _, rfl⟩) hd hQ hk hs
theorem Go.retZ (C : Ctx p s m meth c Z a0 ws own nm bytes ml (some .boolean)) (X : St p l e R s m args below meth c n0 T h cells slots) {z : Int32} (hz : z = 0 ∨ z = 1) (hd : decode bytes pc = .ok (.ireturn, 1)) (hQ : Q (some (.int z)) h) (hk : cells ≤ k) (hs : slots ≤ n) : Go p e below s n0 k n Q (T.setTop (mkF m pc Ls (.int z :: rest))) :=
  Go.retAny C X rfl (by rcases hz with rfl | rfl <;> rfl) (Or.inl ⟨rfl, Or.inr (Or.inl rfl), _, rfl⟩) hd hQ hk hs
theorem Go.retJ (C : Ctx p s m meth c Z a0 ws own nm bytes ml (some .long)) (X : St p l e R s m args below meth c n0 T h cells slots) {z : Int64} (hd : decode bytes pc = .ok (.lreturn, 1)) (hQ : Q (some (.long z)) h) (hk : cells ≤ k) (hs : slots ≤ n) : Go p e below s n0 k n Q (T.setTop (mkF m pc Ls (.long z :: rest))) :=
  Go.retAny C X rfl rfl (Or.inr (Or.inl ⟨rfl, rfl, _, rfl⟩)) hd hQ hk hs
theorem Go.retA {t : FieldType} (C : Ctx p s m meth c Z a0 ws own nm bytes ml (some t)) (X : St p l e R s m args below meth c n0 T h cells slots) {v : Value} (ht : t.isReference = true) (hv : v.isRef = true) (hd : decode bytes pc = .ok (.areturn, 1)) (hQ : Q (some v) h) (hk : cells ≤ k) (hs : slots ≤ n) : Go p e below s n0 k n Q (T.setTop (mkF m pc Ls (v :: rest))) :=
  Go.retAny C X rfl (by cases t <;> cases v <;> first | rfl | (simp [FieldType.isReference] at ht; done) | (simp [Value.isRef] at hv; done)) (Or.inr (Or.inr (Or.inr (Or.inr ⟨rfl, ht, hv⟩)))) hd hQ hk hs
theorem Go.retV (C : Ctx p s m meth c Z a0 ws own nm bytes ml none) (X : St p l e R s m args below meth c n0 T h cells slots) (hd : decode bytes pc = .ok (.return_, 1)) (hQ : Q none h) (hk : cells ≤ k) (hs : slots ≤ n) : Go p e below s n0 k n Q (T.setTop (mkF m pc Ls [])) := by
  obtain ⟨rfl, hz, locs, N, X⟩ := X
  obtain ⟨fs, hr, hrun, hended, hW, hsame⟩ := X.leave (v := none) (fun _ => rfl) C.hlk
  exact ⟨_, _, X.returnOut C.hx C.hret (hb C.hby hd) hr, hrun, hended, _, _, rfl, ⟨hQ, N⟩, ⟨_, rfl⟩, hW, hsame.mono hk hs⟩
theorem Go.if_eq (C : Ctx p s m meth c Z a0 ws own nm bytes ml ret) (X : St p l e R s m args below meth c n0 T h cells slots) {x : Int32} {o : Int} {pc' : Nat} (hd : decode bytes pc = .ok (.ifCond .eq o, 3)) (ho : 0 ≤ (pc : Int) + o) (hp : ((pc : Int) + o).toNat = pc') (Y : x = 0 → Go p e below s n0 k n Q (T.setTop (mkF m pc' Ls rest))) (N : ¬ x = 0 → Go p e below s n0 k n Q (T.setTop (mkF m (pc + 3) Ls rest))) : Go p e below s n0 k n Q (T.setTop (mkF m pc Ls (.int x :: rest))) := by
  by_cases q : x = 0
  · exact Go.st (fun _ => XS.ifYes X.here C.hx rfl rfl (hb C.hby hd) rfl (by simpa [ifCond.holds] using q) ho hp) (Y q)
  · exact Go.st (fun _ => XS.ifNo X.here C.hx rfl (hb C.hby hd) rfl (by simpa [ifCond.holds] using q) ) (N q)
theorem Go.icmp_eq (C : Ctx p s m meth c Z a0 ws own nm bytes ml ret) (X : St p l e R s m args below meth c n0 T h cells slots) {x y : Int32} {o : Int} {pc' : Nat} (hd : decode bytes pc = .ok (.if_icmp .eq o, 3)) (ho : 0 ≤ (pc : Int) + o) (hp : ((pc : Int) + o).toNat = pc') (Y : x = y → Go p e below s n0 k n Q (T.setTop (mkF m pc' Ls rest))) (N : ¬ x = y → Go p e below s n0 k n Q (T.setTop (mkF m (pc + 3) Ls rest))) : Go p e below s n0 k n Q (T.setTop (mkF m pc Ls (.int y :: .int x :: rest))) := by
  by_cases q : x = y
  · exact Go.st (fun _ => XS.icmpYes X.here C.hx rfl rfl (hb C.hby hd) rfl (by simpa [if_icmp.holds] using q) ho hp) (Y q)
  · exact Go.st (fun _ => XS.icmpNo X.here C.hx rfl (hb C.hby hd) rfl (by simpa [if_icmp.holds] using q) ) (N q)
theorem Go.if_ne (C : Ctx p s m meth c Z a0 ws own nm bytes ml ret) (X : St p l e R s m args below meth c n0 T h cells slots) {x : Int32} {o : Int} {pc' : Nat} (hd : decode bytes pc = .ok (.ifCond .ne o, 3)) (ho : 0 ≤ (pc : Int) + o) (hp : ((pc : Int) + o).toNat = pc') (Y : ¬ x = 0 → Go p e below s n0 k n Q (T.setTop (mkF m pc' Ls rest))) (N : x = 0 → Go p e below s n0 k n Q (T.setTop (mkF m (pc + 3) Ls rest))) : Go p e below s n0 k n Q (T.setTop (mkF m pc Ls (.int x :: rest))) := by
  by_cases q : x = 0
  · exact Go.st (fun _ => XS.ifNo X.here C.hx rfl (hb C.hby hd) rfl (by simpa [ifCond.holds] using q) ) (N q)
  · exact Go.st (fun _ => XS.ifYes X.here C.hx rfl rfl (hb C.hby hd) rfl (by simpa [ifCond.holds] using q) ho hp) (Y q)
theorem Go.icmp_ne (C : Ctx p s m meth c Z a0 ws own nm bytes ml ret) (X : St p l e R s m args below meth c n0 T h cells slots) {x y : Int32} {o : Int} {pc' : Nat} (hd : decode bytes pc = .ok (.if_icmp .ne o, 3)) (ho : 0 ≤ (pc : Int) + o) (hp : ((pc : Int) + o).toNat = pc') (Y : ¬ x = y → Go p e below s n0 k n Q (T.setTop (mkF m pc' Ls rest))) (N : x = y → Go p e below s n0 k n Q (T.setTop (mkF m (pc + 3) Ls rest))) : Go p e below s n0 k n Q (T.setTop (mkF m pc Ls (.int y :: .int x :: rest))) := by
  by_cases q : x = y
  · exact Go.st (fun _ => XS.icmpNo X.here C.hx rfl (hb C.hby hd) rfl (by simpa [if_icmp.holds] using q) ) (N q)
  · exact Go.st (fun _ => XS.icmpYes X.here C.hx rfl rfl (hb C.hby hd) rfl (by simpa [if_icmp.holds] using q) ho hp) (Y q)
theorem Go.if_lt (C : Ctx p s m meth c Z a0 ws own nm bytes ml ret) (X : St p l e R s m args below meth c n0 T h cells slots) {x : Int32} {o : Int} {pc' : Nat} (hd : decode bytes pc = .ok (.ifCond .lt o, 3)) (ho : 0 ≤ (pc : Int) + o) (hp : ((pc : Int) + o).toNat = pc') (Y : x < 0 → Go p e below s n0 k n Q (T.setTop (mkF m pc' Ls rest))) (N : ¬ x < 0 → Go p e below s n0 k n Q (T.setTop (mkF m (pc + 3) Ls rest))) : Go p e below s n0 k n Q (T.setTop (mkF m pc Ls (.int x :: rest))) := by
  by_cases q : x < 0
  · exact Go.st (fun _ => XS.ifYes X.here C.hx rfl rfl (hb C.hby hd) rfl (by simpa [ifCond.holds] using q) ho hp) (Y q)
  · exact Go.st (fun _ => XS.ifNo X.here C.hx rfl (hb C.hby hd) rfl (by simpa [ifCond.holds] using q) ) (N q)
theorem Go.icmp_lt (C : Ctx p s m meth c Z a0 ws own nm bytes ml ret) (X : St p l e R s m args below meth c n0 T h cells slots) {x y : Int32} {o : Int} {pc' : Nat} (hd : decode bytes pc = .ok (.if_icmp .lt o, 3)) (ho : 0 ≤ (pc : Int) + o) (hp : ((pc : Int) + o).toNat = pc') (Y : x < y → Go p e below s n0 k n Q (T.setTop (mkF m pc' Ls rest))) (N : ¬ x < y → Go p e below s n0 k n Q (T.setTop (mkF m (pc + 3) Ls rest))) : Go p e below s n0 k n Q (T.setTop (mkF m pc Ls (.int y :: .int x :: rest))) := by
  by_cases q : x < y
  · exact Go.st (fun _ => XS.icmpYes X.here C.hx rfl rfl (hb C.hby hd) rfl (by simpa [if_icmp.holds] using q) ho hp) (Y q)
  · exact Go.st (fun _ => XS.icmpNo X.here C.hx rfl (hb C.hby hd) rfl (by simpa [if_icmp.holds] using q) ) (N q)
theorem Go.if_ge (C : Ctx p s m meth c Z a0 ws own nm bytes ml ret) (X : St p l e R s m args below meth c n0 T h cells slots) {x : Int32} {o : Int} {pc' : Nat} (hd : decode bytes pc = .ok (.ifCond .ge o, 3)) (ho : 0 ≤ (pc : Int) + o) (hp : ((pc : Int) + o).toNat = pc') (Y : ¬ x < 0 → Go p e below s n0 k n Q (T.setTop (mkF m pc' Ls rest))) (N : x < 0 → Go p e below s n0 k n Q (T.setTop (mkF m (pc + 3) Ls rest))) : Go p e below s n0 k n Q (T.setTop (mkF m pc Ls (.int x :: rest))) := by
  by_cases q : x < 0
  · exact Go.st (fun _ => XS.ifNo X.here C.hx rfl (hb C.hby hd) rfl (by simpa [ifCond.holds, Int32.not_lt] using q) ) (N q)
  · exact Go.st (fun _ => XS.ifYes X.here C.hx rfl rfl (hb C.hby hd) rfl (by simpa [ifCond.holds, Int32.not_lt] using q) ho hp) (Y q)
theorem Go.icmp_ge (C : Ctx p s m meth c Z a0 ws own nm bytes ml ret) (X : St p l e R s m args below meth c n0 T h cells slots) {x y : Int32} {o : Int} {pc' : Nat} (hd : decode bytes pc = .ok (.if_icmp .ge o, 3)) (ho : 0 ≤ (pc : Int) + o) (hp : ((pc : Int) + o).toNat = pc') (Y : ¬ x < y → Go p e below s n0 k n Q (T.setTop (mkF m pc' Ls rest))) (N : x < y → Go p e below s n0 k n Q (T.setTop (mkF m (pc + 3) Ls rest))) : Go p e below s n0 k n Q (T.setTop (mkF m pc Ls (.int y :: .int x :: rest))) := by
  by_cases q : x < y
  · exact Go.st (fun _ => XS.icmpNo X.here C.hx rfl (hb C.hby hd) rfl (by simpa [if_icmp.holds, Int32.not_lt] using q) ) (N q)
  · exact Go.st (fun _ => XS.icmpYes X.here C.hx rfl rfl (hb C.hby hd) rfl (by simpa [if_icmp.holds, Int32.not_lt] using q) ho hp) (Y q)
theorem Go.if_gt (C : Ctx p s m meth c Z a0 ws own nm bytes ml ret) (X : St p l e R s m args below meth c n0 T h cells slots) {x : Int32} {o : Int} {pc' : Nat} (hd : decode bytes pc = .ok (.ifCond .gt o, 3)) (ho : 0 ≤ (pc : Int) + o) (hp : ((pc : Int) + o).toNat = pc') (Y : 0 < x → Go p e below s n0 k n Q (T.setTop (mkF m pc' Ls rest))) (N : ¬ 0 < x → Go p e below s n0 k n Q (T.setTop (mkF m (pc + 3) Ls rest))) : Go p e below s n0 k n Q (T.setTop (mkF m pc Ls (.int x :: rest))) := by
  by_cases q : 0 < x
  · exact Go.st (fun _ => XS.ifYes X.here C.hx rfl rfl (hb C.hby hd) rfl (by simpa [ifCond.holds] using q) ho hp) (Y q)
  · exact Go.st (fun _ => XS.ifNo X.here C.hx rfl (hb C.hby hd) rfl (by simpa [ifCond.holds] using q) ) (N q)
theorem Go.icmp_gt (C : Ctx p s m meth c Z a0 ws own nm bytes ml ret) (X : St p l e R s m args below meth c n0 T h cells slots) {x y : Int32} {o : Int} {pc' : Nat} (hd : decode bytes pc = .ok (.if_icmp .gt o, 3)) (ho : 0 ≤ (pc : Int) + o) (hp : ((pc : Int) + o).toNat = pc') (Y : y < x → Go p e below s n0 k n Q (T.setTop (mkF m pc' Ls rest))) (N : ¬ y < x → Go p e below s n0 k n Q (T.setTop (mkF m (pc + 3) Ls rest))) : Go p e below s n0 k n Q (T.setTop (mkF m pc Ls (.int y :: .int x :: rest))) := by
  by_cases q : y < x
  · exact Go.st (fun _ => XS.icmpYes X.here C.hx rfl rfl (hb C.hby hd) rfl (by simpa [if_icmp.holds] using q) ho hp) (Y q)
  · exact Go.st (fun _ => XS.icmpNo X.here C.hx rfl (hb C.hby hd) rfl (by simpa [if_icmp.holds] using q) ) (N q)
theorem Go.if_le (C : Ctx p s m meth c Z a0 ws own nm bytes ml ret) (X : St p l e R s m args below meth c n0 T h cells slots) {x : Int32} {o : Int} {pc' : Nat} (hd : decode bytes pc = .ok (.ifCond .le o, 3)) (ho : 0 ≤ (pc : Int) + o) (hp : ((pc : Int) + o).toNat = pc') (Y : ¬ 0 < x → Go p e below s n0 k n Q (T.setTop (mkF m pc' Ls rest))) (N : 0 < x → Go p e below s n0 k n Q (T.setTop (mkF m (pc + 3) Ls rest))) : Go p e below s n0 k n Q (T.setTop (mkF m pc Ls (.int x :: rest))) := by
  by_cases q : 0 < x
  · exact Go.st (fun _ => XS.ifNo X.here C.hx rfl (hb C.hby hd) rfl (by simpa [ifCond.holds, Int32.not_lt] using q) ) (N q)
  · exact Go.st (fun _ => XS.ifYes X.here C.hx rfl rfl (hb C.hby hd) rfl (by simpa [ifCond.holds, Int32.not_lt] using q) ho hp) (Y q)
theorem Go.icmp_le (C : Ctx p s m meth c Z a0 ws own nm bytes ml ret) (X : St p l e R s m args below meth c n0 T h cells slots) {x y : Int32} {o : Int} {pc' : Nat} (hd : decode bytes pc = .ok (.if_icmp .le o, 3)) (ho : 0 ≤ (pc : Int) + o) (hp : ((pc : Int) + o).toNat = pc') (Y : ¬ y < x → Go p e below s n0 k n Q (T.setTop (mkF m pc' Ls rest))) (N : y < x → Go p e below s n0 k n Q (T.setTop (mkF m (pc + 3) Ls rest))) : Go p e below s n0 k n Q (T.setTop (mkF m pc Ls (.int y :: .int x :: rest))) := by
  by_cases q : y < x
  · exact Go.st (fun _ => XS.icmpNo X.here C.hx rfl (hb C.hby hd) rfl (by simpa [if_icmp.holds, Int32.not_lt] using q) ) (N q)
  · exact Go.st (fun _ => XS.icmpYes X.here C.hx rfl rfl (hb C.hby hd) rfl (by simpa [if_icmp.holds, Int32.not_lt] using q) ho hp) (Y q)
theorem Go.lif_eq (C : Ctx p s m meth c Z a0 ws own nm bytes ml ret) (X : St p l e R s m args below meth c n0 T h cells slots) {x y : Int64} {o : Int} {pc' : Nat} (hd : decode bytes pc = .ok (.ifCond .eq o, 3)) (ho : 0 ≤ (pc : Int) + o) (hp : ((pc : Int) + o).toNat = pc') (Y : x = y → Go p e below s n0 k n Q (T.setTop (mkF m pc' Ls rest))) (N : ¬ x = y → Go p e below s n0 k n Q (T.setTop (mkF m (pc + 3) Ls rest))) : Go p e below s n0 k n Q (T.setTop (mkF m pc Ls (.int (lcmpW x y) :: rest))) := by
  have q := lc_eq x y
  rw [← lcW] at q
  exact Go.if_eq C X hd ho hp (fun r => Y (q.mp r)) (fun r => N (fun u => r (q.mpr u)))
theorem Go.lif_ne (C : Ctx p s m meth c Z a0 ws own nm bytes ml ret) (X : St p l e R s m args below meth c n0 T h cells slots) {x y : Int64} {o : Int} {pc' : Nat} (hd : decode bytes pc = .ok (.ifCond .ne o, 3)) (ho : 0 ≤ (pc : Int) + o) (hp : ((pc : Int) + o).toNat = pc') (Y : ¬ x = y → Go p e below s n0 k n Q (T.setTop (mkF m pc' Ls rest))) (N : x = y → Go p e below s n0 k n Q (T.setTop (mkF m (pc + 3) Ls rest))) : Go p e below s n0 k n Q (T.setTop (mkF m pc Ls (.int (lcmpW x y) :: rest))) := by
  have q := lc_eq x y
  rw [← lcW] at q
  exact Go.if_ne C X hd ho hp (fun r => Y (fun u => r (q.mpr u))) (fun r => N (q.mp r))
theorem Go.lif_lt (C : Ctx p s m meth c Z a0 ws own nm bytes ml ret) (X : St p l e R s m args below meth c n0 T h cells slots) {x y : Int64} {o : Int} {pc' : Nat} (hd : decode bytes pc = .ok (.ifCond .lt o, 3)) (ho : 0 ≤ (pc : Int) + o) (hp : ((pc : Int) + o).toNat = pc') (Y : x < y → Go p e below s n0 k n Q (T.setTop (mkF m pc' Ls rest))) (N : ¬ x < y → Go p e below s n0 k n Q (T.setTop (mkF m (pc + 3) Ls rest))) : Go p e below s n0 k n Q (T.setTop (mkF m pc Ls (.int (lcmpW x y) :: rest))) := by
  have q := lc_lt x y
  rw [← lcW] at q
  exact Go.if_lt C X hd ho hp (fun r => Y (q.mp r)) (fun r => N (fun u => r (q.mpr u)))
theorem Go.lif_ge (C : Ctx p s m meth c Z a0 ws own nm bytes ml ret) (X : St p l e R s m args below meth c n0 T h cells slots) {x y : Int64} {o : Int} {pc' : Nat} (hd : decode bytes pc = .ok (.ifCond .ge o, 3)) (ho : 0 ≤ (pc : Int) + o) (hp : ((pc : Int) + o).toNat = pc') (Y : ¬ x < y → Go p e below s n0 k n Q (T.setTop (mkF m pc' Ls rest))) (N : x < y → Go p e below s n0 k n Q (T.setTop (mkF m (pc + 3) Ls rest))) : Go p e below s n0 k n Q (T.setTop (mkF m pc Ls (.int (lcmpW x y) :: rest))) := by
  have q := lc_lt x y
  rw [← lcW] at q
  exact Go.if_ge C X hd ho hp (fun r => Y (fun u => r (q.mpr u))) (fun r => N (q.mp r))
theorem Go.lif_gt (C : Ctx p s m meth c Z a0 ws own nm bytes ml ret) (X : St p l e R s m args below meth c n0 T h cells slots) {x y : Int64} {o : Int} {pc' : Nat} (hd : decode bytes pc = .ok (.ifCond .gt o, 3)) (ho : 0 ≤ (pc : Int) + o) (hp : ((pc : Int) + o).toNat = pc') (Y : y < x → Go p e below s n0 k n Q (T.setTop (mkF m pc' Ls rest))) (N : ¬ y < x → Go p e below s n0 k n Q (T.setTop (mkF m (pc + 3) Ls rest))) : Go p e below s n0 k n Q (T.setTop (mkF m pc Ls (.int (lcmpW x y) :: rest))) := by
  have q := lc_gt x y
  rw [← lcW] at q
  exact Go.if_gt C X hd ho hp (fun r => Y (q.mp r)) (fun r => N (fun u => r (q.mpr u)))
theorem Go.lif_le (C : Ctx p s m meth c Z a0 ws own nm bytes ml ret) (X : St p l e R s m args below meth c n0 T h cells slots) {x y : Int64} {o : Int} {pc' : Nat} (hd : decode bytes pc = .ok (.ifCond .le o, 3)) (ho : 0 ≤ (pc : Int) + o) (hp : ((pc : Int) + o).toNat = pc') (Y : ¬ y < x → Go p e below s n0 k n Q (T.setTop (mkF m pc' Ls rest))) (N : y < x → Go p e below s n0 k n Q (T.setTop (mkF m (pc + 3) Ls rest))) : Go p e below s n0 k n Q (T.setTop (mkF m pc Ls (.int (lcmpW x y) :: rest))) := by
  have q := lc_gt x y
  rw [← lcW] at q
  exact Go.if_le C X hd ho hp (fun r => Y (fun u => r (q.mpr u))) (fun r => N (q.mp r))
theorem Go.acmp_eq (C : Ctx p s m meth c Z a0 ws own nm bytes ml ret) (X : St p l e R s m args below meth c n0 T h cells slots) {x y : Value} (h1 : x.isRef = true) (h2 : y.isRef = true) {o : Int} {pc' : Nat} (hd : decode bytes pc = .ok (.if_acmp .eq o, 3)) (ho : 0 ≤ (pc : Int) + o) (hp : ((pc : Int) + o).toNat = pc') (Y : x = y → Go p e below s n0 k n Q (T.setTop (mkF m pc' Ls rest))) (N : ¬ x = y → Go p e below s n0 k n Q (T.setTop (mkF m (pc + 3) Ls rest))) : Go p e below s n0 k n Q (T.setTop (mkF m pc Ls (y :: x :: rest))) := by
  obtain ⟨-, -, _, -, X⟩ := X
  by_cases q : x = y
  · exact Go.st (fun _ => Jvm.RoadKit.acmp (g := mkF m pc Ls (y :: x :: rest)) X C.hx rfl h1 h2 (same := true) rfl (hb C.hby hd) rfl (decide_eq_true q) ho (by rw [← hp]; rfl)) (Y q)
  · exact Go.st (fun _ => Jvm.RoadKit.acmp (g := mkF m pc Ls (y :: x :: rest)) X C.hx rfl h1 h2 (same := false) rfl (hb C.hby hd) rfl (decide_eq_false q) ho (by rfl)) (N q)
theorem Go.acmp_ne (C : Ctx p s m meth c Z a0 ws own nm bytes ml ret) (X : St p l e R s m args below meth c n0 T h cells slots) {x y : Value} (h1 : x.isRef = true) (h2 : y.isRef = true) {o : Int} {pc' : Nat} (hd : decode bytes pc = .ok (.if_acmp .ne o, 3)) (ho : 0 ≤ (pc : Int) + o) (hp : ((pc : Int) + o).toNat = pc') (Y : ¬ x = y → Go p e below s n0 k n Q (T.setTop (mkF m pc' Ls rest))) (N : x = y → Go p e below s n0 k n Q (T.setTop (mkF m (pc + 3) Ls rest))) : Go p e below s n0 k n Q (T.setTop (mkF m pc Ls (y :: x :: rest))) := by
  obtain ⟨-, -, _, -, X⟩ := X
  by_cases q : x = y
  · exact Go.st (fun _ => Jvm.RoadKit.acmp (g := mkF m pc Ls (y :: x :: rest)) X C.hx rfl h1 h2 (same := true) rfl (hb C.hby hd) rfl (decide_eq_true q) ho (by rfl)) (N q)
  · exact Go.st (fun _ => Jvm.RoadKit.acmp (g := mkF m pc Ls (y :: x :: rest)) X C.hx rfl h1 h2 (same := false) rfl (hb C.hby hd) rfl (decide_eq_false q) ho (by rw [← hp]; rfl)) (Y q)
theorem Go.getF (C : Ctx p s m meth c Z a0 ws own nm bytes ml ret) (X : St p l e R s m args below meth c n0 T h cells slots) {O n1 d : String} {i : Nat} {a : Addr} {v : Value} (w : Jvm.Cond.fieldLink own i O n1 d ∈ ws) (F : Fld Z h a O n1 d v) (hd : decode bytes pc = .ok (.getfield i, 3)) (K : ∀ T', St p l e R s m args below meth c n0 T' h cells slots → Go p e below s n0 k n Q (T'.setTop (mkF m (pc + 3) Ls (v :: rest)))) : Go p e below s n0 k n Q (T.setTop (mkF m pc Ls (.ref a :: rest))) := by
  obtain ⟨e0, hz, locs, N, X⟩ := X
  obtain ⟨T', X', e', st⟩ := Jvm.RoadKit.getF X C.hx C.hZ C.hown (host := "") (Or.inl (C.w w)) Via.refl e0 F (g := mkF m pc Ls (.ref a :: rest)) rfl rfl (hb C.hby hd)
  exact Go.st st (K T' ⟨e', hz, locs, N, X'⟩)
theorem Go.getS (C : Ctx p s m meth c Z a0 ws own nm bytes ml ret) (X : St p l e R s m args below meth c n0 T h cells slots) {O n1 d : String} {i : Nat} {v : Value} (w : Jvm.Cond.fieldLink own i O n1 d ∈ ws) (F : Sta Z h O n1 d v) (hd : decode bytes pc = .ok (.getstatic i, 3)) (K : ∀ T', St p l e R s m args below meth c n0 T' h cells slots → Go p e below s n0 k n Q (T'.setTop (mkF m (pc + 3) Ls (v :: stk)))) : Go p e below s n0 k n Q (T.setTop (mkF m pc Ls stk)) := by
  obtain ⟨e0, hz, locs, N, X⟩ := X
  obtain ⟨T', X', e', st⟩ := Jvm.RoadKit.getS2 X C.hx C.hZ C.hown (host := "") (Or.inl (C.w w)) Via.refl e0 F (g := mkF m pc Ls stk) rfl (hb C.hby hd)
  exact Go.st st (K T' ⟨e', hz, locs, N, X'⟩)
theorem Go.putF (C : Ctx p s m meth c Z a0 ws own nm bytes ml ret) (X : St p l e R s m args below meth c n0 T h cells slots) {O n1 d C1 : String} {i kk : Nat} {ty : FieldType} {a : Addr} {v old : Value} (w : Jvm.Cond.fieldLink own i O n1 d ∈ ws) (F : Fld Z h a O n1 d old) (E : Exa Z h a C1) (L : Jvm.Cond.lays C1 O n1 d ∈ ws ∨ (Jvm.Cond.laysFinal C1 O n1 d ∈ ws ∧ own = O ∧ nm = "<init>")) (wi : Jvm.Cond.instantiable C1 kk ∈ ws)
    (hty : parseFieldDescriptor d = some ty) (hn : narrow ty v = v) (hf : fits ty v = true) (ha : n0 ≤ a) (hd : decode bytes pc = .ok (.putfield i, 3)) (K : ∀ T' h', St p l e R s m args below meth c n0 T' h' cells slots → Wr h h' a (Jvm.RoadKit.slotOf Z O n1 d) v → Fld Z h' a O n1 d v → Go p e below s n0 k n Q (T'.setTop (mkF m (pc + 3) Ls rest))) : Go p e below s n0 k n Q (T.setTop (mkF m pc Ls (v :: .ref a :: rest))) := by
  obtain ⟨e0, hz, locs, N, X⟩ := X
  obtain ⟨T', h', X', e', W, st⟩ := Jvm.RoadKit.putF X C.hx C.hZ C.hown (host := "") (Or.inl (C.w w)) Via.refl e0 F E (L.imp (fun q => C.w q) (fun q => ⟨C.w q.1, q.2.1, C.hnm.trans q.2.2⟩)) (C.w wi) hty hn hf (g := mkF m pc Ls (v :: .ref a :: rest)) rfl rfl (hb C.hby hd)
  exact Go.st st (K T' h' ⟨e', hz, _, Fr.snoc X' N ha, X'⟩ W (F.same W))
theorem Go.newO (C : Ctx p s m meth c Z a0 ws own nm bytes ml ret) (X : St p l e R s m args below meth c n0 T h cells slots) {C1 : String} {i kk : Nat} (w : Jvm.Cond.classLink own i C1 ∈ ws) (wi : Jvm.Cond.instantiable C1 kk ∈ ws) (wz : Jvm.Cond.initialized C1 ∈ ws) (hd : decode bytes pc = .ok (.new i, 3)) (hc : cells + 1 ≤ R.cells) (hl : slots + kk ≤ R.slots)
    (K : ∀ T' h' b, h.size = b → n0 ≤ b → St p l e R s m args below meth c n0 T' h' (cells + 1) (slots + kk) → Ext h h' → Exa Z h' b C1 → (∀ {O n1 d : String} {ty : FieldType}, (Jvm.Cond.lays C1 O n1 d ∈ ws ∨ Jvm.Cond.laysFinal C1 O n1 d ∈ ws) → parseFieldDescriptor d = some ty → Fld Z h' b O n1 d (defaultValue ty)) → Go p e below s n0 k n Q (T'.setTop (mkF m (pc + 3) Ls (.ref b :: stk)))) : Go p e below s n0 k n Q (T.setTop (mkF m pc Ls stk)) := by
  have hs := X.size
  obtain ⟨e0, hz, locs, N, X⟩ := X
  obtain ⟨T', h', X', e', E, E1, D, -, st⟩ := Jvm.RoadKit.newO X C.hx C.hZ C.hown (C.w w) (C.w wi) (C.w wz) e0 (g := mkF m pc Ls stk) rfl (hb C.hby hd) hc hl
  exact Go.st st (K T' h' _ rfl hs ⟨e', hz, _, N, X'⟩ E E1 (fun q r => D (q.imp (fun q => C.w q) (fun q => C.w q)) r))
theorem AR.of {cA : ClassId} {ty : FieldType} {z : Int32} {a : Addr} (F : Arr Z h a (newA cA ty z) ty) (q : ¬ z < 0) : AR Z h a ty (List.replicate z.toNatClampNeg (defaultValue ty)) :=
  ⟨_, F, by simp [newA], by rw [List.length_replicate]; exact (back32 q).2⟩
theorem Go.newP (C : Ctx p s m meth c Z a0 ws own nm bytes ml ret) (X : St p l e R s m args below meth c n0 T h cells slots) {aty : ArrayType} {z : Int32} {cap : Nat} (w : Jvm.Cond.arrayClass (newarray.typeOf aty) ∈ ws) (hd : decode bytes pc = .ok (.newarray aty, 2)) (hn : ¬ z < 0) (hcap : z.toNatClampNeg ≤ cap) (hb8 : cap * 8 ≤ 536870912) (hc : cells + 1 ≤ R.cells) (hl : slots + cap ≤ R.slots)
    (K : ∀ T' h' b, h.size = b → n0 ≤ b → St p l e R s m args below meth c n0 T' h' (cells + 1) (slots + cap) → Ext h h' → AR Z h' b (newarray.typeOf aty) (List.replicate z.toNatClampNeg (defaultValue (newarray.typeOf aty))) → Go p e below s n0 k n Q (T'.setTop (mkF m (pc + 2) Ls (.ref b :: rest)))) : Go p e below s n0 k n Q (T.setTop (mkF m pc Ls (.int z :: rest))) := by
  have hs := X.size
  obtain ⟨e0, hz, locs, N, X⟩ := X
  obtain ⟨T', h', cA, X', e', E, F, st⟩ := Jvm.RoadKit.newP X C.hx C.hZ (C.w w) e0 (g := mkF m pc Ls (.int z :: rest)) rfl (hb C.hby hd) rfl hn hcap hb8 hc hl
  exact Go.st st (K T' h' _ rfl hs ⟨e', hz, _, N, X'⟩ E (AR.of F hn))
theorem AR.lt {a : Addr} {ty : FieldType} {vs : List Value} (F : AR Z h a ty vs) : a < h.size := by obtain ⟨c, A, -⟩ := F; exact A.lt
theorem AR.ext {a : Addr} {ty : FieldType} {vs : List Value} (F : AR Z h a ty vs) (E : Ext h h') : AR Z h' a ty vs := by obtain ⟨c, A, r⟩ := F; exact ⟨c, A.ext E, r⟩
theorem AR.other {a b : Addr} {ty : FieldType} {vs : List Value} {sl : Nat} {v : Value} (F : AR Z h b ty vs) (W : Wr h h' a sl v) (q : b ≠ a) : AR Z h' b ty vs := by obtain ⟨c, A, r⟩ := F; exact ⟨c, A.other W q, r⟩
theorem AR.keep {a : Addr} {ty : FieldType} {vs : List Value} {us : List Addr} (F : AR Z h a ty vs) (K : Keep h h' us) (q : a ∉ us) : AR Z h' a ty vs := by obtain ⟨c, A, r⟩ := F; exact ⟨c, ⟨K.2.1 a c A.1 q, A.2⟩, r⟩
theorem AR.same {a : Addr} {ty : FieldType} {vs : List Value} {i : Nat} {v : Value} (F : AR Z h a ty vs) (W : Wr h h' a i v) : AR Z h' a ty (vs.set i v) := by
  obtain ⟨c, A, r, q⟩ := F
  refine ⟨_, A.same W, ?_, by rw [List.length_set]; exact q⟩
  simp [Cell.setSlot, r]
theorem AR.in {a : Addr} {ty : FieldType} {vs : List Value} {j : Int32} {c : Cell} (r : c.slots = vs.toArray) (hj : ¬ j < 0) (hl : j.toNatClampNeg < vs.length) : ¬ (j < 0 ∨ c.slots.size ≤ j.toNatClampNeg) := by
  rw [r]; simp; exact ⟨Int32.not_lt.mp hj, hl⟩
theorem AR.ne {a b : Addr} {ty : FieldType} {vs : List Value} (F : AR Z h a ty vs) (g : h.size = b) : a ≠ b := by subst g; exact Nat.ne_of_lt F.lt
theorem ltOf {vs : List Value} {i : Nat} {v : Value} (q : vs[i]? = some v) : i < vs.length := (List.getElem?_eq_some_iff.mp q).1
theorem Go.iaload (C : Ctx p s m meth c Z a0 ws own nm bytes ml ret) (X : St p l e R s m args below meth c n0 T h cells slots) {a : Addr} {vs : List Value} {j : Int32} {x : Int32} (F : AR Z h a .int vs) (hj : ¬ j < 0) (hv : vs[j.toNatClampNeg]? = some (.int x)) (hd : decode bytes pc = .ok (.iaload, 1)) (K : Go p e below s n0 k n Q (T.setTop (mkF m (pc + 1) Ls (.int x :: rest)))) : Go p e below s n0 k n Q (T.setTop (mkF m pc Ls (.int j :: .ref a :: rest))) := by
  obtain ⟨e0, hz, locs, N, X⟩ := X
  obtain ⟨cl, A, r, -⟩ := F
  exact Go.st (X.iaload C.hx (j := j) (v := .int x) (by rw [e0]; exact A.1) (State.isArrayOf_alike C.hZ.alike A.2.1) A.2.2 (AR.in (a := a) (ty := .int) r hj (ltOf hv)) (by rw [r]; simpa using hv) (g := mkF m pc Ls (.int j :: .ref a :: rest)) rfl rfl (hb C.hby hd)) K
theorem Go.laload (C : Ctx p s m meth c Z a0 ws own nm bytes ml ret) (X : St p l e R s m args below meth c n0 T h cells slots) {a : Addr} {vs : List Value} {j : Int32} {x : Int64} (F : AR Z h a .long vs) (hj : ¬ j < 0) (hv : vs[j.toNatClampNeg]? = some (.long x)) (hd : decode bytes pc = .ok (.laload, 1)) (K : Go p e below s n0 k n Q (T.setTop (mkF m (pc + 1) Ls (.long x :: rest)))) : Go p e below s n0 k n Q (T.setTop (mkF m pc Ls (.int j :: .ref a :: rest))) := by
  obtain ⟨e0, hz, locs, N, X⟩ := X
  obtain ⟨cl, A, r, -⟩ := F
  exact Go.st (X.laload C.hx (j := j) (v := .long x) (by rw [e0]; exact A.1) (State.isArrayOf_alike C.hZ.alike A.2.1) A.2.2 (AR.in (a := a) (ty := .long) r hj (ltOf hv)) (by rw [r]; simpa using hv) (g := mkF m pc Ls (.int j :: .ref a :: rest)) rfl rfl (hb C.hby hd)) K
theorem Go.baload (C : Ctx p s m meth c Z a0 ws own nm bytes ml ret) (X : St p l e R s m args below meth c n0 T h cells slots) {a : Addr} {vs : List Value} {j : Int32} {x : Int32} (F : AR Z h a .byte vs) (hj : ¬ j < 0) (hv : vs[j.toNatClampNeg]? = some (.int x)) (hd : decode bytes pc = .ok (.baload, 1)) (K : Go p e below s n0 k n Q (T.setTop (mkF m (pc + 1) Ls (.int x :: rest)))) : Go p e below s n0 k n Q (T.setTop (mkF m pc Ls (.int j :: .ref a :: rest))) := by
  obtain ⟨e0, hz, locs, N, X⟩ := X
  obtain ⟨cl, A, r, -⟩ := F
  exact Go.st (X.baloadBytes C.hx (j := j) (v := .int x) (by rw [e0]; exact A.1) (State.isArrayOf_alike C.hZ.alike A.2.1) A.2.2 (AR.in (a := a) (ty := .byte) r hj (ltOf hv)) (by rw [r]; simpa using hv) (g := mkF m pc Ls (.int j :: .ref a :: rest)) rfl rfl (hb C.hby hd)) K
theorem Go.aaload (C : Ctx p s m meth c Z a0 ws own nm bytes ml ret) (X : St p l e R s m args below meth c n0 T h cells slots) {a : Addr} {ty : FieldType} {vs : List Value} {j : Int32} {v : Value} (F : AR Z h a ty vs) (hty : ty.isReference = true) (hj : ¬ j < 0) (hv : vs[j.toNatClampNeg]? = some v) (hd : decode bytes pc = .ok (.aaload, 1)) (K : Go p e below s n0 k n Q (T.setTop (mkF m (pc + 1) Ls (v :: rest)))) : Go p e below s n0 k n Q (T.setTop (mkF m pc Ls (.int j :: .ref a :: rest))) := by
  obtain ⟨e0, hz, locs, N, X⟩ := X
  obtain ⟨cl, A, r, -⟩ := F
  exact Go.st (X.aaload C.hx (j := j) (v := v) (by rw [e0]; exact A.1) (State.isArrayOf_alike C.hZ.alike A.2.1) hty A.2.2 (AR.in (a := a) (ty := ty) r hj (ltOf hv)) (by rw [r]; simpa using hv) (g := mkF m pc Ls (.int j :: .ref a :: rest)) rfl rfl (hb C.hby hd)) K
theorem Go.alen (C : Ctx p s m meth c Z a0 ws own nm bytes ml ret) (X : St p l e R s m args below meth c n0 T h cells slots) {a : Addr} {ty : FieldType} {vs : List Value} {z : Int32} (F : AR Z h a ty vs) (hz : vs.length.toInt32 = z) (hd : decode bytes pc = .ok (.arraylength, 1)) (K : Go p e below s n0 k n Q (T.setTop (mkF m (pc + 1) Ls (.int z :: rest)))) : Go p e below s n0 k n Q (T.setTop (mkF m pc Ls (.ref a :: rest))) := by
  subst hz
  obtain ⟨e0, hz, locs, N, X⟩ := X
  obtain ⟨cl, A, r, -⟩ := F
  refine Go.st (X.arraylength C.hx (by rw [e0]; exact A.1) (State.isArrayOf_alike C.hZ.alike A.2.1) (g := mkF m pc Ls (.ref a :: rest)) rfl rfl (hb C.hby hd)) ?_
  rw [r]
  simpa using K
theorem Go.iastore (C : Ctx p s m meth c Z a0 ws own nm bytes ml ret) (X : St p l e R s m args below meth c n0 T h cells slots) {a : Addr} {vs : List Value} {j : Int32} {x : Int32} (F : AR Z h a .int vs) (hj : ¬ j < 0) (hl : j.toNatClampNeg < vs.length) (ha : n0 ≤ a) (hd : decode bytes pc = .ok (.iastore, 1)) (K : ∀ T' h', St p l e R s m args below meth c n0 T' h' cells slots → Wr h h' a j.toNatClampNeg (.int x) → AR Z h' a .int (vs.set j.toNatClampNeg (.int x)) → Go p e below s n0 k n Q (T'.setTop (mkF m (pc + 1) Ls rest))) : Go p e below s n0 k n Q (T.setTop (mkF m pc Ls (.int x :: .int j :: .ref a :: rest))) := by
  obtain ⟨e0, hz, locs, N, X⟩ := X
  have F0 := F
  obtain ⟨cl, A, r, -⟩ := F
  obtain ⟨T', h', X', e', W, st⟩ := Jvm.RoadKit.stI X C.hx C.hZ e0 A (j := j) (x := x) (AR.in (a := a) (ty := .int) r hj hl) (g := mkF m pc Ls (.int x :: .int j :: .ref a :: rest)) rfl rfl (hb C.hby hd)
  exact Go.st st (K T' h' ⟨e', hz, _, Fr.snoc X' N ha, X'⟩ W (F0.same W))
theorem Go.lastore (C : Ctx p s m meth c Z a0 ws own nm bytes ml ret) (X : St p l e R s m args below meth c n0 T h cells slots) {a : Addr} {vs : List Value} {j : Int32} {x : Int64} (F : AR Z h a .long vs) (hj : ¬ j < 0) (hl : j.toNatClampNeg < vs.length) (ha : n0 ≤ a) (hd : decode bytes pc = .ok (.lastore, 1)) (K : ∀ T' h', St p l e R s m args below meth c n0 T' h' cells slots → Wr h h' a j.toNatClampNeg (.long x) → AR Z h' a .long (vs.set j.toNatClampNeg (.long x)) → Go p e below s n0 k n Q (T'.setTop (mkF m (pc + 1) Ls rest))) : Go p e below s n0 k n Q (T.setTop (mkF m pc Ls (.long x :: .int j :: .ref a :: rest))) := by
  obtain ⟨e0, hz, locs, N, X⟩ := X
  have F0 := F
  obtain ⟨cl, A, r, -⟩ := F
  obtain ⟨T', h', X', e', W, st⟩ := Jvm.RoadKit.stJ X C.hx C.hZ e0 A (j := j) (x := x) (AR.in (a := a) (ty := .long) r hj hl) (g := mkF m pc Ls (.long x :: .int j :: .ref a :: rest)) rfl rfl (hb C.hby hd)
  exact Go.st st (K T' h' ⟨e', hz, _, Fr.snoc X' N ha, X'⟩ W (F0.same W))
theorem Go.bastore (C : Ctx p s m meth c Z a0 ws own nm bytes ml ret) (X : St p l e R s m args below meth c n0 T h cells slots) {a : Addr} {vs : List Value} {j : Int32} {x : Int32} (F : AR Z h a .byte vs) (hj : ¬ j < 0) (hl : j.toNatClampNeg < vs.length) (ha : n0 ≤ a) (hd : decode bytes pc = .ok (.bastore, 1)) (K : ∀ T' h', St p l e R s m args below meth c n0 T' h' cells slots → Wr h h' a j.toNatClampNeg (.int (nar .byte x)) → AR Z h' a .byte (vs.set j.toNatClampNeg (.int (nar .byte x))) → Go p e below s n0 k n Q (T'.setTop (mkF m (pc + 1) Ls rest))) : Go p e below s n0 k n Q (T.setTop (mkF m pc Ls (.int x :: .int j :: .ref a :: rest))) := by
  obtain ⟨e0, hz, locs, N, X⟩ := X
  have F0 := F
  obtain ⟨cl, A, r, -⟩ := F
  obtain ⟨T', h', X', e', W, st⟩ := Jvm.RoadKit.stB X C.hx C.hZ e0 A (j := j) (x := x) (AR.in (a := a) (ty := .byte) r hj hl) (g := mkF m pc Ls (.int x :: .int j :: .ref a :: rest)) rfl rfl (hb C.hby hd)
  exact Go.st st (K T' h' ⟨e', hz, _, Fr.snoc X' N ha, X'⟩ W (F0.same W))
theorem Con.back {y : MethodName} {rm : Room} {as : Array Value} {W : Nat} (H : Con l Z y bytes ml ret [] rm n0 as h Q) (hZ : Z.Warmed39 s.vm) (wc : (Jvm.Cond.code y bytes ml ret).before a0 Z = true) (wz : (Jvm.Cond.initialized y.cls).before a0 Z = true) (hf : rm.frames + 1 ≤ R.frames) (hl : W + (ml + 11) + rm.locals ≤ R.locals) :
    Back l R p e below s args y 3 W (fun A a => a = as ∧ A.U.heap = h ∧ A.cells + rm.cells ≤ R.cells ∧ A.slots + rm.slots ≤ R.slots)
      (fun A _ v B => ∃ L, (Q v B.U.heap ∧ Fr n0 L) ∧ B.locs = A.locs ++ L ∧ B.cells = A.cells + rm.cells ∧ B.slots = A.slots + rm.slots) :=
  backOf (Q := fun v h L => Q v h ∧ Fr n0 L) H hZ wc wz hf hl
theorem Go.callS (C : Ctx p s m meth c Z a0 ws own nm bytes ml ret) (X : St p l e R s m args below meth c n0 T h cells slots) {y : MethodName} {bytes' : ByteArray} {ml' : Nat} {ret' : Option FieldType} {rm : Room} {i W : Nat} {argsL : List Value} {Q' : Option Value → Heap → Prop} (w1 : Jvm.Cond.methodLink own i y ∈ ws) (w2 : Jvm.Cond.static y ∈ ws) (w3 : Jvm.Cond.initialized y.cls ∈ ws) (w4 : Jvm.Cond.code y bytes' ml' ret' ∈ ws) (hy : y.cls ≠ "java/lang/invoke/MethodHandle" ∧ y.cls ≠ "java/lang/invoke/VarHandle")
    (H : Con l Z y bytes' ml' ret' [] rm n0 argsL.toArray h Q') (hfr : rm.frames + 1 ≤ R.frames) (hlo : W + (ml' + 11) + rm.locals ≤ R.locals) (hsz : Ls.size = ml) (hlen : ∀ sig, parseMethodDescriptor y.desc = some sig → argsL.length = sig.parameters.length) (hW : (rest.map fun v => v.category).sum ≤ W) (hstk : stk = argsL.reverse ++ rest) (hd : decode bytes pc = .ok (.invokestatic i, 3)) (hce : cells + rm.cells ≤ R.cells) (hsl : slots + rm.slots ≤ R.slots) (K : ∀ T' h' v, St p l e R s m args below meth c n0 T' h' (cells + rm.cells) (slots + rm.slots) → Q' v h' → Go p e below s n0 k n Q (T'.setTop (mkF m (pc + 3) Ls (v.toList ++ rest)))) : Go p e below s n0 k n Q (T.setTop (mkF m pc Ls stk)) := by
  obtain ⟨e0, hz, locs, N, X⟩ := X
  obtain ⟨v, _, ⟨T', L', k', n'⟩, -, X', ⟨L, hQ, l1, y1, z1⟩, st⟩ := Jvm.LawKit.callS X C.hx (y := y) C.hown (mvT C.hZ (C.w w1)) (mvT C.hZ (C.w w2)) (mvT C.hZ (C.w w3)) (mvT C.hZ (C.w w4)) hy (H.back (W := W) C.hZ (C.w w4) (C.w w3) hfr hlo) (g := mkF m pc Ls stk) rfl (hsz.trans C.hml.symm) (argsL := argsL) (rest := rest) hlen hstk (by show 2 * 0 + _ ≤ _; omega) (hb C.hby hd) (fun _ _ => ⟨rfl, e0, hce, hsl⟩)
  dsimp only [Pt.U, Pt.locs, Pt.cells, Pt.slots] at X' l1 y1 z1 st hQ
  subst l1 y1 z1
  exact Go.st st (K T' _ v ⟨rfl, hz, _, N.app hQ.2, X'⟩ hQ.1)
theorem Go.callInit (C : Ctx p s m meth c Z a0 ws own nm bytes ml ret) (X : St p l e R s m args below meth c n0 T h cells slots) {y : MethodName} {bytes' : ByteArray} {ml' : Nat} {rm : Room} {i W : Nat} {argsL : List Value} {Q' : Option Value → Heap → Prop} {a : Addr} (hy1 : y.name = "<init>") (w1 : Jvm.Cond.methodLink own i y ∈ ws) (w2 : Jvm.Cond.instanceMethod y ∈ ws) (w3 : Jvm.Cond.initialized y.cls ∈ ws) (w4 : Jvm.Cond.code y bytes' ml' none ∈ ws) (hy : y.cls ≠ "java/lang/invoke/MethodHandle" ∧ y.cls ≠ "java/lang/invoke/VarHandle")
    (H : Con l Z y bytes' ml' none [] rm n0 (.ref a :: argsL).toArray h Q') (hfr : rm.frames + 1 ≤ R.frames) (hlo : W + (ml' + 11) + rm.locals ≤ R.locals) (hsz : Ls.size = ml) (hlen : ∀ sig, parseMethodDescriptor y.desc = some sig → argsL.length = sig.parameters.length) (hW : (rest.map fun v => v.category).sum ≤ W) (hstk : stk = argsL.reverse ++ .ref a :: rest) (hd : decode bytes pc = .ok (.invokespecial i, 3)) (hce : cells + rm.cells ≤ R.cells) (hsl : slots + rm.slots ≤ R.slots) (K : ∀ T' h' v, St p l e R s m args below meth c n0 T' h' (cells + rm.cells) (slots + rm.slots) → Q' v h' → Go p e below s n0 k n Q (T'.setTop (mkF m (pc + 3) Ls (v.toList ++ rest)))) : Go p e below s n0 k n Q (T.setTop (mkF m pc Ls stk)) := by
  obtain ⟨e0, hz, locs, N, X⟩ := X
  obtain ⟨v, _, ⟨T', L', k', n'⟩, -, X', ⟨L, hQ, l1, y1, z1⟩, st⟩ := X.specialBack C.hx (y := y) hy1 C.hown (mvT C.hZ (C.w w1)) (mvT C.hZ (C.w w2)) (mvT C.hZ (C.w w4)) hy (H.back (W := W) C.hZ (C.w w4) (C.w w3) hfr hlo) (g := mkF m pc Ls stk) rfl (hsz.trans C.hml.symm) (Steps.refl _) (a := a) (argsL := argsL) (rest := rest) hlen hstk (by show 2 * 0 + _ ≤ _; omega) (hb C.hby hd) (fun _ _ => ⟨rfl, e0, hce, hsl⟩)
  dsimp only [Pt.U, Pt.locs, Pt.cells, Pt.slots] at X' l1 y1 z1 st hQ
  subst l1 y1 z1
  exact Go.tr st (K T' _ v ⟨rfl, hz, _, N.app hQ.2, X'⟩ hQ.1)
theorem Go.callV (C : Ctx p s m meth c Z a0 ws own nm bytes ml ret) (X : St p l e R s m args below meth c n0 T h cells slots) {y : MethodName} {bytes' : ByteArray} {ml' : Nat} {ret' : Option FieldType} {rm : Room} {i W : Nat} {argsL : List Value} {Q' : Option Value → Heap → Prop} {a : Addr} {C1 : String} (E : Exa Z h a C1) (w1 : Jvm.Cond.methodLink own i y ∈ ws) (w2 : Jvm.Cond.declares y ∈ ws) (w5 : Jvm.Cond.selects C1 y y ∈ ws) (w6 : Jvm.Cond.instanceMethod y ∈ ws) (w3 : Jvm.Cond.initialized y.cls ∈ ws) (w4 : Jvm.Cond.code y bytes' ml' ret' ∈ ws) (hy : y.cls ≠ "java/lang/invoke/MethodHandle" ∧ y.cls ≠ "java/lang/invoke/VarHandle") (hC1 : C1 = y.cls)
    (H : Con l Z y bytes' ml' ret' [] rm n0 (.ref a :: argsL).toArray h Q') (hfr : rm.frames + 1 ≤ R.frames) (hlo : W + (ml' + 11) + rm.locals ≤ R.locals) (hsz : Ls.size = ml) (hlen : ∀ sig, parseMethodDescriptor y.desc = some sig → argsL.length = sig.parameters.length) (hW : (rest.map fun v => v.category).sum ≤ W) (hstk : stk = argsL.reverse ++ .ref a :: rest) (hd : decode bytes pc = .ok (.invokevirtual i, 3)) (hce : cells + rm.cells ≤ R.cells) (hsl : slots + rm.slots ≤ R.slots) (K : ∀ T' h' v, St p l e R s m args below meth c n0 T' h' (cells + rm.cells) (slots + rm.slots) → Q' v h' → Go p e below s n0 k n Q (T'.setTop (mkF m (pc + 3) Ls (v.toList ++ rest)))) : Go p e below s n0 k n Q (T.setTop (mkF m pc Ls stk)) := by
  subst hC1
  obtain ⟨e0, hz, locs, N, X⟩ := X
  obtain ⟨cq, kq, qa, qb, qc⟩ := isOf (T := T) C.hZ e0 E
  obtain ⟨v, _, ⟨T', L', k', n'⟩, -, X', ⟨L, hQ, l1, y1, z1⟩, st⟩ := X.virtualBack C.hx (y := y) (z := y) C.hown (mvT C.hZ (C.w w1)) (mvT C.hZ (C.w w2)) (notFace_of_selects (args := #[]) (mvT C.hZ (C.w w5))) (mvT C.hZ (C.w w5)) (mvT C.hZ (C.w w6)) hy (H.back (W := W) C.hZ (C.w w4) (C.w w3) hfr hlo) qa qc (g := mkF m pc Ls stk) rfl (hsz.trans C.hml.symm) (Steps.refl _) (argsL := argsL) (rest := rest) hlen hstk (by show 2 * 0 + _ ≤ _; omega) (hb C.hby hd) (fun _ _ => ⟨rfl, e0, hce, hsl⟩)
  dsimp only [Pt.U, Pt.locs, Pt.cells, Pt.slots] at X' l1 y1 z1 st hQ
  subst l1 y1 z1
  exact Go.tr st (K T' _ v ⟨rfl, hz, _, N.app hQ.2, X'⟩ hQ.1)
theorem Go.initO (C : Ctx p s m meth c Z a0 ws own nm bytes ml ret) (X : St p l e R s m args below meth c n0 T h cells slots) {i W : Nat} {a : Addr} (w1 : Jvm.Cond.methodLink own i Lib.objectInit ∈ ws) (w2 : Jvm.Cond.instanceMethod Lib.objectInit ∈ ws) (w3 : Jvm.Cond.code Lib.objectInit ⟨#[0xb1]⟩ 1 none ∈ ws) (hsz : Ls.size = ml) (hd : decode bytes pc = .ok (.invokespecial i, 3)) (hf : 1 ≤ R.frames) (hW : (rest.map fun v => v.category).sum ≤ W) (hl : W + 12 ≤ R.locals) (K : ∀ T', St p l e R s m args below meth c n0 T' h cells slots → Go p e below s n0 k n Q (T'.setTop (mkF m (pc + 3) Ls rest))) : Go p e below s n0 k n Q (T.setTop (mkF m pc Ls (.ref a :: rest))) := by
  obtain ⟨e0, hz, locs, N, X⟩ := X
  obtain ⟨T', X', e', st⟩ := Jvm.RoadKit.initO X C.hx C.hZ C.hown (C.w w1) (C.w w2) (C.w w3) e0 (g := mkF m pc Ls (.ref a :: rest)) rfl (hsz.trans C.hml.symm) rfl (hb C.hby hd) hf (W := W) (by show 2 * 0 + _ ≤ _; omega) hl
  exact Go.st st (K T' ⟨e', hz, locs, N, X'⟩)
theorem Go.ldcI (C : Ctx p s m meth c Z a0 ws own nm bytes ml ret) (X : St p l e R s m args below meth c n0 T h cells slots) {i : Nat} {x : Int32} (w : Jvm.Cond.constant own i x ∈ ws) (hd : decode bytes pc = .ok (.ldc i, 2)) (K : Go p e below s n0 k n Q (T.setTop (mkF m (pc + 2) Ls (.int x :: stk)))) : Go p e below s n0 k n Q (T.setTop (mkF m pc Ls stk)) := by
  obtain ⟨e0, hz, locs, N, X⟩ := X
  exact Go.st (fun _ => X.ldcI (g := mkF m pc Ls stk) C.hx C.hown (mvT C.hZ (C.w w)) rfl (hb C.hby hd)) K
theorem Go.ldcW (C : Ctx p s m meth c Z a0 ws own nm bytes ml ret) (X : St p l e R s m args below meth c n0 T h cells slots) {i : Nat} {x : Int32} (w : Jvm.Cond.constant own i x ∈ ws) (hd : decode bytes pc = .ok (.ldc_w i, 3)) (K : Go p e below s n0 k n Q (T.setTop (mkF m (pc + 3) Ls (.int x :: stk)))) : Go p e below s n0 k n Q (T.setTop (mkF m pc Ls stk)) := by
  obtain ⟨e0, hz, locs, N, X⟩ := X
  exact Go.st (fun _ => X.ldcWI (g := mkF m pc Ls stk) C.hx C.hown (mvT C.hZ (C.w w)) rfl (hb C.hby hd)) K
theorem Go.ldcJ (C : Ctx p s m meth c Z a0 ws own nm bytes ml ret) (X : St p l e R s m args below meth c n0 T h cells slots) {i : Nat} {x : Int64} (w : Jvm.Cond.constantLong own i x ∈ ws) (hd : decode bytes pc = .ok (.ldc2_w i, 3)) (K : Go p e below s n0 k n Q (T.setTop (mkF m (pc + 3) Ls (.long x :: stk)))) : Go p e below s n0 k n Q (T.setTop (mkF m pc Ls stk)) := by
  obtain ⟨e0, hz, locs, N, X⟩ := X
  exact Go.st (fun _ => X.ldc2J (g := mkF m pc Ls stk) C.hx C.hown (mvT C.hZ (C.w w)) rfl (hb C.hby hd)) K
theorem Go.irem (C : Ctx p s m meth c Z a0 ws own nm bytes ml ret) (X : St p l e R s m args below meth c n0 T h cells slots) {x y : Int32} (hy : y ≠ 0) (hd : decode bytes pc = .ok (.irem, 1)) (K : Go p e below s n0 k n Q (T.setTop (mkF m (pc + 1) Ls (.int (x % y) :: rest)))) : Go p e below s n0 k n Q (T.setTop (mkF m pc Ls (.int y :: .int x :: rest))) := by
  obtain ⟨e0, hz, locs, N, X⟩ := X
  exact Go.st (fun _ => Jvm.RoadKit.iremM (g := mkF m pc Ls (.int y :: .int x :: rest)) X C.hx rfl (hb C.hby hd) rfl hy) K
theorem Go.lrem (C : Ctx p s m meth c Z a0 ws own nm bytes ml ret) (X : St p l e R s m args below meth c n0 T h cells slots) {x y : Int64} (hy : y ≠ 0) (hd : decode bytes pc = .ok (.lrem, 1)) (K : Go p e below s n0 k n Q (T.setTop (mkF m (pc + 1) Ls (.long (x % y) :: rest)))) : Go p e below s n0 k n Q (T.setTop (mkF m pc Ls (.long y :: .long x :: rest))) := by
  refine Go.st (fun _ => XS.lrem (g := mkF m pc Ls (.long y :: .long x :: rest)) X.here C.hx rfl (hb C.hby hd) rfl hy) ?_
  rw [lrem_mod]
  exact K
theorem Go.dupX2 (C : Ctx p s m meth c Z a0 ws own nm bytes ml ret) (X : St p l e R s m args below meth c n0 T h cells slots) {x y z : Value} (h1 : x.category = 1) (h2 : y.category = 1) (h3 : z.category = 1) (hd : decode bytes pc = .ok (.dup_x2, 1)) (K : Go p e below s n0 k n Q (T.setTop (mkF m (pc + 1) Ls (x :: y :: z :: x :: rest)))) : Go p e below s n0 k n Q (T.setTop (mkF m pc Ls (x :: y :: z :: rest))) := by
  refine Go.st (fun t hr => ?_) K
  have hx := C.hx
  have hd' := hb C.hby hd
  jvm_step X.here [X.here.top, hx, hd', h1, h2, h3]
  exact hr
theorem eqI_v {args : Array Value} {first s : State} {o : Option Outcome} {idx : List Nat} {t : Term} {z : Int32} (q : (Jvm.Cond.eq t (Term.int z)).value args first o s idx = some true) : t.eval args first o idx s = some (.int z) := by
  obtain ⟨x, y, ha, hb, k1, k2⟩ := cmp_v (Or.inl q)
  have hy : y = .int z := by
    have r := Term.int_eval (args := args) (first := first) (o := o) (idx := idx) (s := s) z
    rw [r] at hb; exact (Option.some.inj hb).symm
  subst hy
  obtain ⟨u, rfl⟩ := k2
  rw [ha, gotT (Cond.eq_ints ha hb) q]
theorem fieldNe {args : Array Value} {first s : State} {o : Option Outcome} {idx : List Nat} {t t' : Term} {C f d : String} {a b : Addr} {z z' : Int32} (h1 : t.eval args first o idx s = some (.ref a)) (h2 : t'.eval args first o idx s = some (.ref b)) (q1 : (Jvm.Cond.eq (Term.field t C f d) (Term.int z)).value args first o s idx = some true) (q2 : (Jvm.Cond.eq (Term.field t' C f d) (Term.int z')).value args first o s idx = some true) (hz : z ≠ z') : a ≠ b := by
  intro r; subst r
  have e1 := eqI_v q1; have e2 := eqI_v q2
  rw [fld_at h1] at e1; rw [fld_at h2] at e2
  rw [e1] at e2
  cases e2; exact hz rfl
/-- an array whose elements are known and that may be cloned -/
def AF (Z : State) (h : Heap) (a : Addr) (ty : FieldType) (vs : List Value) : Prop := ∃ c : Cell, Arr Z h a c ty ∧ c.slots = vs.toArray ∧ vs.length < 2 ^ 31 ∧ FitC Z c
theorem AF.ar {a : Addr} {ty : FieldType} {vs : List Value} (F : AF Z h a ty vs) : AR Z h a ty vs := by obtain ⟨c, A, r, q, -⟩ := F; exact ⟨c, A, r, q⟩
theorem Go.clone (C : Ctx p s m meth c Z a0 ws own nm bytes ml ret) (X : St p l e R s m args below meth c n0 T h cells slots) {ad : String} {i W cap : Nat} {a : Addr} {ty : FieldType} {vs : List Value} (w1 : Jvm.Cond.methodLink own i ⟨ad, "clone", "()Ljava/lang/Object;"⟩ ∈ ws) (w2 : Jvm.Cond.sameMethod ad "java/lang/Object" "clone" "()Ljava/lang/Object;" ∈ ws) (w3 : Jvm.Cond.native ⟨"java/lang/Object", "clone", "()Ljava/lang/Object;"⟩ ∈ ws) (w4 : Jvm.Cond.instanceMethod ⟨"java/lang/Object", "clone", "()Ljava/lang/Object;"⟩ ∈ ws)
    (w5 : Jvm.Cond.selects ad ⟨ad, "clone", "()Ljava/lang/Object;"⟩ ⟨"java/lang/Object", "clone", "()Ljava/lang/Object;"⟩ ∈ ws) (w6 : Jvm.Cond.castable ad "java/lang/Cloneable" ∈ ws) (F : AF Z h a ty vs) (E : Exa Z h a ad) (hsz : Ls.size = ml) (hd : decode bytes pc = .ok (.invokevirtual i, 3)) (hf : 1 ≤ R.frames) (hW : (rest.map fun v => v.category).sum ≤ W) (hl : W + 14 ≤ R.locals) (hcap : vs.length ≤ cap) (hc : cells + 1 ≤ R.cells) (hsl : slots + cap ≤ R.slots)
    (K : ∀ T' h' b, h.size = b → n0 ≤ b → St p l e R s m args below meth c n0 T' h' (cells + 1) (slots + cap) → Ext h h' → AR Z h' b ty vs → Exa Z h' b ad → Go p e below s n0 k n Q (T'.setTop (mkF m (pc + 3) Ls (.ref b :: rest)))) : Go p e below s n0 k n Q (T.setTop (mkF m pc Ls (.ref a :: rest))) := by
  have hs := X.size
  obtain ⟨e0, hz, locs, N, X⟩ := X
  obtain ⟨cl, A, r, q, FC⟩ := F
  obtain ⟨T', h', X', e', Ex, A', E', st⟩ := Jvm.RoadKit.cloneA X C.hx C.hZ C.hown (C.w w1) (C.w w2) (C.w w3) (C.w w4) (C.w w5) (C.w w6) e0 A E FC (g := mkF m pc Ls (.ref a :: rest)) rfl (hsz.trans C.hml.symm) rfl (hb C.hby hd) hf (W := W) (cap := cap) (by show 2 * 0 + _ ≤ _; omega) hl (by rw [r]; simpa using hcap) hc hsl
  exact Go.st st (K T' h' _ rfl hs ⟨e', hz, _, N, X'⟩ Ex ⟨_, A', r, q⟩ E')
theorem Go.cast (C : Ctx p s m meth c Z a0 ws own nm bytes ml ret) (X : St p l e R s m args below meth c n0 T h cells slots) {i : Nat} {K1 : String} {a : Addr} (w : Jvm.Cond.classLink own i K1 ∈ ws) (F : Ins Z h a K1 true) (hd : decode bytes pc = .ok (.checkcast i, 3)) (K : ∀ T', St p l e R s m args below meth c n0 T' h cells slots → Go p e below s n0 k n Q (T'.setTop (mkF m (pc + 3) Ls (.ref a :: rest)))) : Go p e below s n0 k n Q (T.setTop (mkF m pc Ls (.ref a :: rest))) := by
  obtain ⟨e0, hz, locs, N, X⟩ := X
  obtain ⟨T', X', e', st⟩ := Jvm.RoadKit.castY X C.hx C.hZ C.hown (C.w w) e0 F (g := mkF m pc Ls (.ref a :: rest)) rfl rfl (hb C.hby hd)
  exact Go.st st (K T' ⟨e', hz, locs, N, X'⟩)
theorem elemRef {args : Array Value} {s : State} {t t' : Term} {a x : Addr} {cl : Cell} {j : Int32} (q : (Jvm.Cond.eq (Term.elem t (Term.int j)) t').value args s none s [] = some true) (ht : t.eval args s none [] s = some (.ref a)) (ht' : t'.eval args s none [] s = some (.ref x)) (hc : s.heap[a]? = some cl) : cl.slots[j.toNatClampNeg]? = some (.ref x) := by
  obtain ⟨u, v, ha, hb, k1, k2⟩ := cmp_v (Or.inl q)
  rw [ht'] at hb
  cases hb
  have e := gotT (eq_R ha ht' k2.2 rfl) q
  subst e
  exact (elem_in ha ht (Term.int_eval j) hc).2
theorem fldI {args : Array Value} {s : State} {t : Term} {a : Addr} {C f d : String} {z : Int32} (q : (Jvm.Cond.eq (Term.field t C f d) (Term.int z)).value args s none s [] = some true) (ht : t.eval args s none [] s = some (.ref a)) : Fld s s.heap a C f d (.int z) := by
  have e := eqI_v q
  rw [fld_at ht] at e
  exact Fld.start e
theorem lenOf' {args : Array Value} {s : State} {t : Term} {a : Addr} {cl : Cell} {ty : FieldType} {z : Int32} (q : (Jvm.Cond.eq (Term.length t) (Term.int z)).value args s none s [] = some true) (ht : t.eval args s none [] s = some (.ref a)) (A : Arr s s.heap a cl ty) : cl.slots.size.toInt32 = z ∧ cl.slots.size < 2 ^ 31 := by
  obtain ⟨b, cell, h1, h2, h3, h4⟩ := Jvm.Lib.length_spec (eqI_v q)
  rw [ht] at h1
  cases h1
  rw [A.fin (Vm.Alike.refl _)] at h2
  cases h2
  exact ⟨(Value.int.inj h4).symm, h3⟩
theorem Go.newPE (C : Ctx p s m meth c Z a0 ws own nm bytes ml ret) (X : St p l e R s m args below meth c n0 T h cells slots) {aty : ArrayType} {z : Int32} {cap : Nat} {ad : String} (w : Jvm.Cond.arrayClass (newarray.typeOf aty) ∈ ws) (had : "[" ++ (newarray.typeOf aty).toString = ad) (hd : decode bytes pc = .ok (.newarray aty, 2)) (hn : ¬ z < 0) (hcap : z.toNatClampNeg ≤ cap) (hb8 : cap * 8 ≤ 536870912) (hc : cells + 1 ≤ R.cells) (hl : slots + cap ≤ R.slots)
    (K : ∀ T' h' b, h.size = b → n0 ≤ b → St p l e R s m args below meth c n0 T' h' (cells + 1) (slots + cap) → Ext h h' → AR Z h' b (newarray.typeOf aty) (List.replicate z.toNatClampNeg (defaultValue (newarray.typeOf aty))) → Exa Z h' b ad → Go p e below s n0 k n Q (T'.setTop (mkF m (pc + 2) Ls (.ref b :: rest)))) : Go p e below s n0 k n Q (T.setTop (mkF m pc Ls (.int z :: rest))) := by
  have hs := X.size
  obtain ⟨e0, hz, locs, N, X⟩ := X
  obtain ⟨T', h', cA, X', e', E, F, EX, st⟩ := Jvm.RoadKit.newPE X C.hx C.hZ (C.w w) e0 (g := mkF m pc Ls (.int z :: rest)) rfl (hb C.hby hd) rfl hn hcap hb8 hc hl had
  exact Go.st st (K T' h' _ rfl hs ⟨e', hz, _, N, X'⟩ E (AR.of F hn) EX)
theorem AF.zero {a : Addr} {N : Nat} (F : AR Z h a .byte (List.replicate N (.int (0 : Int32)))) : AF Z h a .byte (List.replicate N (.int (0 : Int32))) := by
  obtain ⟨c, A, r, q⟩ := F
  refine ⟨c, A, r, q, fitC_of A fun i hi v hv => ?_⟩
  rw [r, List.getElem?_toArray, List.getElem?_replicate] at hv
  split at hv
  · cases hv; rfl
  · cases hv
theorem AR.arv0 {a : Addr} {N : Nat} (F : AR Z h a .byte (List.replicate N (.int (0 : Int32)))) : ∃ k, Arv Z h a k .byte N.toInt32 (List.replicate N (.int (0 : Int32))) (.int (0 : Int32)) := by
  obtain ⟨c, A, r, q⟩ := F
  rw [List.length_replicate] at q
  have sz : c.slots.size = N := by rw [r]; simp
  have cN : N.toInt32.toNatClampNeg = N := by simp only [Int32.toNatClampNeg, len_toInt q]; rfl
  have g0 : ∀ i, (List.replicate N (Value.int (0 : Int32))).getD i (.int (0 : Int32)) = .int (0 : Int32) := fun i => by
    rw [List.getD_eq_getElem?_getD, List.getElem?_replicate]; split <;> rfl
  refine ⟨c.cls, c, A, rfl, by rw [sz, cN], ?_, fun i hi => ?_, fun i _ => by rw [g0]; rfl⟩
  · rw [Int32.lt_iff_toInt_lt, len_toInt q]
    have h0 : (0 : Int32).toInt = 0 := rfl
    omega
  · rw [g0, r]
    rw [sz] at hi
    simp [List.getElem?_replicate, hi]
theorem Arv.ar0 {a : Addr} {k : ClassId} {N : Nat} {vs : List Value} (hN : N < 2 ^ 31) (F : Arv Z h a k .byte N.toInt32 vs (.int (0 : Int32))) (hv : ∀ i, vs.getD i (.int (0 : Int32)) = .int (0 : Int32)) : AR Z h a .byte (List.replicate N (.int (0 : Int32))) := by
  obtain ⟨c, A, -, S, -, H, -⟩ := F
  have cN : N.toInt32.toNatClampNeg = N := by simp only [Int32.toNatClampNeg, len_toInt hN]; rfl
  rw [cN] at S
  refine ⟨c, A, ?_, by rw [List.length_replicate]; exact hN⟩
  apply Array.ext_getElem?
  intro i
  by_cases q : i < N
  · rw [H i (by omega), hv]; simp [List.getElem?_replicate, q]
  · rw [Array.getElem?_eq_none (by omega), Array.getElem?_eq_none (by simp; omega)]
theorem Go.acopy0 (C : Ctx p s m meth c Z a0 ws own nm bytes ml ret) (X : St p l e R s m args below meth c n0 T h cells slots) {i W : Nat} {a b : Addr} {n1 n2 : Nat} {nn : Int32} (w1 : Jvm.Cond.methodLink own i Jvm.Stand.acN ∈ ws) (w2 : Jvm.Cond.native Jvm.Stand.acN ∈ ws) (w3 : Jvm.Cond.static Jvm.Stand.acN ∈ ws) (w4 : Jvm.Cond.initialized "java/lang/System" ∈ ws) (F1 : AR Z h a .byte (List.replicate n1 (.int (0 : Int32)))) (F2 : AR Z h b .byte (List.replicate n2 (.int (0 : Int32)))) (hnn : ¬ nn < 0) (h1 : nn.toNatClampNeg ≤ n1) (h2 : nn.toNatClampNeg ≤ n2) (gb : n0 ≤ b) (hsz : Ls.size = ml)
    (hd : decode bytes pc = .ok (.invokestatic i, 3)) (hf : 1 ≤ R.frames) (hW : (rest.map fun v => v.category).sum ≤ W) (hlo : W + (nativeFrameWords "java/lang/System" "arraycopy" 5 + 11) ≤ R.locals)
    (K : ∀ T' h', St p l e R s m args below meth c n0 T' h' cells slots → Keep h h' [b] → AR Z h' b .byte (List.replicate n2 (.int (0 : Int32))) → Go p e below s n0 k n Q (T'.setTop (mkF m (pc + 3) Ls rest))) : Go p e below s n0 k n Q (T.setTop (mkF m pc Ls (.int nn :: .int 0 :: .ref b :: .int 0 :: .ref a :: rest))) := by
  obtain ⟨e0, hz, locs, N, X⟩ := X
  obtain ⟨k1, V1⟩ := F1.arv0
  obtain ⟨k2, V2⟩ := F2.arv0
  have q1 : n1 < 2 ^ 31 := by obtain ⟨_, _, _, q⟩ := F1; rw [List.length_replicate] at q; exact q
  have q2 : n2 < 2 ^ 31 := by obtain ⟨_, _, _, q⟩ := F2; rw [List.length_replicate] at q; exact q
  have c1 : n1.toInt32.toNatClampNeg = n1 := by simp only [Int32.toNatClampNeg, len_toInt q1]; rfl
  have c2 : n2.toInt32.toNatClampNeg = n2 := by simp only [Int32.toNatClampNeg, len_toInt q2]; rfl
  have z0 : (0 : Int32).toNatClampNeg = 0 := rfl
  obtain ⟨T', h', L, X', e', N', KK, V', st⟩ := cpA X C.hx C.hZ C.hown (C.w w1) (C.w w2) (C.w w3) (C.w w4) e0 V1 V2 (sp := 0) (dp := 0) (nn := nn) (Or.inl ⟨rfl, rfl⟩) (by decide) (by decide) hnn (by rw [z0, c1]; omega) (by rw [z0, c2]; omega) rfl (by rw [z0, List.length_replicate]; omega) N gb (g := mkF m pc Ls (.int nn :: .int 0 :: .ref b :: .int 0 :: .ref a :: rest)) rfl (hsz.trans C.hml.symm) rfl (hb C.hby hd) hf (W := W) (by show 2 * 0 + _ ≤ _; omega) hlo
  refine Go.st st (K T' h' ⟨e', hz, L, N', X'⟩ KK (Arv.ar0 q2 V' fun j => ?_))
  have g0 : ∀ (vs : List Value), (∀ x ∈ vs, x = .int (0 : Int32)) → vs.getD j (.int (0 : Int32)) = .int (0 : Int32) := fun vs hv => by
    rw [List.getD_eq_getElem?_getD]
    cases hq : vs[j]? with
    | none => rfl
    | some x => exact hv x (List.mem_of_getElem? hq)
  refine g0 _ fun x hx => ?_
  rcases List.mem_append.mp hx with hx | hx
  · rcases List.mem_append.mp hx with hx | hx
    · rw [z0] at hx; simp at hx
    · obtain ⟨y, -, rfl⟩ := List.mem_map.mp hx
      rw [List.getD_eq_getElem?_getD, List.getElem?_replicate]; split <;> rfl
  · exact (List.mem_replicate.mp (List.mem_of_mem_drop hx)).2
end One
end Jvm.OwnGo
namespace Jvm.Pilot.@@N@@
open Jvm Jvm.ClassFile Sem Op Lib Jvm.Free Jvm.Stand Jvm.LawKit Jvm.RoadKit Bundle Jvm.OwnGo Jvm.Pilot.@@N@@.Jvm.D
def sel (x n : Int64) : Int64 := if x = 0 then 0 else n
theorem d1_0 : decode prog_68_method_1_code 0 = .ok (.aload_n 0, 1) := by decide +kernel
theorem d1_1 : decode prog_68_method_1_code 1 = .ok (.invokespecial 1, 3) := by decide +kernel
theorem d1_4 : decode prog_68_method_1_code 4 = .ok (.aload_n 0, 1) := by decide +kernel
theorem d1_5 : decode prog_68_method_1_code 5 = .ok (.iconst 1, 1) := by decide +kernel
theorem d1_6 : decode prog_68_method_1_code 6 = .ok (.putfield 7, 3) := by decide +kernel
theorem d1_9 : decode prog_68_method_1_code 9 = .ok (.aload_n 0, 1) := by decide +kernel
theorem d1_10 : decode prog_68_method_1_code 10 = .ok (.iconst 1, 1) := by decide +kernel
theorem d1_11 : decode prog_68_method_1_code 11 = .ok (.putfield 13, 3) := by decide +kernel
theorem d1_14 : decode prog_68_method_1_code 14 = .ok (.aload_n 0, 1) := by decide +kernel
theorem d1_15 : decode prog_68_method_1_code 15 = .ok (.iconst 1, 1) := by decide +kernel
theorem d1_16 : decode prog_68_method_1_code 16 = .ok (.putfield 16, 3) := by decide +kernel
theorem d1_19 : decode prog_68_method_1_code 19 = .ok (.return_, 1) := by decide +kernel
theorem pf_1 : plainFor (⟨"com/example/vitruvius/vitruvius/profile/ValueSummary", "<init>", "()V"⟩ : MethodName) = true := plainFor_of_name (by first | (simp [plainName, overriddenIn]; done) | decide +kernel)
theorem pd_1 : parseMethodDescriptor "()V" = some ⟨[], none⟩ := by decide +kernel
set_option maxRecDepth 65536 in
set_option maxHeartbeats 40000000 in
theorem con_init (l : Launch) (Z : State) (a0 : Array Value) (hw : ∀ d ∈ tables_1, d.before a0 Z = true) (n0 : Nat) (h0 : Heap) (Z0 : n0 ≤ h0.size) (a : Addr) (ga : n0 ≤ a) (E : Exa Z h0 a "com/example/vitruvius/vitruvius/profile/ValueSummary") (F_integers : Fld Z h0 a "com/example/vitruvius/vitruvius/profile/ValueSummary" "integers" "Z" (.int (0 : Int32))) (F_decimals : Fld Z h0 a "com/example/vitruvius/vitruvius/profile/ValueSummary" "decimals" "Z" (.int (0 : Int32))) (F_booleans : Fld Z h0 a "com/example/vitruvius/vitruvius/profile/ValueSummary" "booleans" "Z" (.int (0 : Int32))) (F_values : Fld Z h0 a "com/example/vitruvius/vitruvius/profile/ValueSummary" "values" "J" (.long (0 : Int64))) (F_uuids : Fld Z h0 a "com/example/vitruvius/vitruvius/profile/ValueSummary" "uuids" "J" (.long (0 : Int64))) (F_addresses : Fld Z h0 a "com/example/vitruvius/vitruvius/profile/ValueSummary" "addresses" "J" (.long (0 : Int64))) (F_uris : Fld Z h0 a "com/example/vitruvius/vitruvius/profile/ValueSummary" "uris" "J" (.long (0 : Int64))) (F_spaced : Fld Z h0 a "com/example/vitruvius/vitruvius/profile/ValueSummary" "spaced" "J" (.long (0 : Int64))) (F_characters : Fld Z h0 a "com/example/vitruvius/vitruvius/profile/ValueSummary" "characters" "J" (.long (0 : Int64))) (F_maxBytes : Fld Z h0 a "com/example/vitruvius/vitruvius/profile/ValueSummary" "maxBytes" "I" (.int (0 : Int32))) :
    Con l Z (⟨"com/example/vitruvius/vitruvius/profile/ValueSummary", "<init>", "()V"⟩ : MethodName) prog_68_method_1_code 1 none [] ({ frames := 1, cells := 0, slots := 0, locals := 12 } : Room) n0 #[(.ref a)] h0 (fun v h => v = none ∧ Exa Z h a "com/example/vitruvius/vitruvius/profile/ValueSummary" ∧ Fld Z h a "com/example/vitruvius/vitruvius/profile/ValueSummary" "values" "J" (.long (0 : Int64)) ∧ Fld Z h a "com/example/vitruvius/vitruvius/profile/ValueSummary" "uuids" "J" (.long (0 : Int64)) ∧ Fld Z h a "com/example/vitruvius/vitruvius/profile/ValueSummary" "addresses" "J" (.long (0 : Int64)) ∧ Fld Z h a "com/example/vitruvius/vitruvius/profile/ValueSummary" "uris" "J" (.long (0 : Int64)) ∧ Fld Z h a "com/example/vitruvius/vitruvius/profile/ValueSummary" "spaced" "J" (.long (0 : Int64)) ∧ Fld Z h a "com/example/vitruvius/vitruvius/profile/ValueSummary" "characters" "J" (.long (0 : Int64)) ∧ Fld Z h a "com/example/vitruvius/vitruvius/profile/ValueSummary" "maxBytes" "I" (.int (0 : Int32))) := by
  refine Con.mk pf_1 hw Z0 ?_
  intro p e s m below meth c T0 C X0
  have ef : entryFrame m #[(.ref a)] 1 = mkF m 0 #[.val (.ref a)] [] := by first | (simp [entryFrame, mkF, argsToLocals, Value.category]; done) | rfl
  rw [ef]
  show Go p e below s n0 _ _ _ (T0.setTop (mkF m 0 #[.val (.ref a)] []))
  refine Go.st (fun _ => XS.aloadN X0.here C.hx rfl (hb C.hby d1_0) rfl rfl) ?_
  show Go p e below s n0 _ _ _ (T0.setTop (mkF m 1 #[.val (.ref a)] [(.ref a)]))
  refine Go.initO C X0 (W := 0) (wd 6 rfl) (wd 7 rfl) (wd 8 rfl) rfl d1_1 (by decide) (Nat.le_of_ble_eq_true rfl) (by decide) (fun T101 X101 => ?_)
  show Go p e below s n0 _ _ _ (T101.setTop (mkF m 4 #[.val (.ref a)] []))
  refine Go.st (fun _ => XS.aloadN X101.here C.hx rfl (hb C.hby d1_4) rfl rfl) ?_
  show Go p e below s n0 _ _ _ (T101.setTop (mkF m 5 #[.val (.ref a)] [(.ref a)]))
  refine Go.st (fun _ => XS.iconst X101.here C.hx rfl (hb C.hby d1_5)) ?_
  show Go p e below s n0 _ _ _ (T101.setTop (mkF m 6 #[.val (.ref a)] [(.int (1 : Int32)), (.ref a)]))
  refine Go.putF C X101 (wd 9 rfl) F_integers E (Or.inl (wd 10 rfl)) (wd 1 rfl) (ty := .boolean) (by decide) rfl rfl ga d1_6 (fun T102 h102 X102 W102 F102 => ?_)
  have F_decimals_103 : Fld Z h102 a "com/example/vitruvius/vitruvius/profile/ValueSummary" "decimals" "Z" (.int (0 : Int32)) := (Fld.other W102 F_decimals (Or.inr (slot_ne (Or.inl (C.w (wd 12 rfl))) (Or.inl (C.w (wd 10 rfl))) (by decide) (t := .boolean) (t' := .boolean) (by decide) (by decide))))
  have F_booleans_104 : Fld Z h102 a "com/example/vitruvius/vitruvius/profile/ValueSummary" "booleans" "Z" (.int (0 : Int32)) := (Fld.other W102 F_booleans (Or.inr (slot_ne (Or.inl (C.w (wd 14 rfl))) (Or.inl (C.w (wd 10 rfl))) (by decide) (t := .boolean) (t' := .boolean) (by decide) (by decide))))
  have F_values_105 : Fld Z h102 a "com/example/vitruvius/vitruvius/profile/ValueSummary" "values" "J" (.long (0 : Int64)) := (Fld.other W102 F_values (Or.inr (slot_ne (Or.inl (C.w (wd 21 rfl))) (Or.inl (C.w (wd 10 rfl))) (by decide) (t := .long) (t' := .boolean) (by decide) (by decide))))
  have F_uuids_106 : Fld Z h102 a "com/example/vitruvius/vitruvius/profile/ValueSummary" "uuids" "J" (.long (0 : Int64)) := (Fld.other W102 F_uuids (Or.inr (slot_ne (Or.inl (C.w (wd 23 rfl))) (Or.inl (C.w (wd 10 rfl))) (by decide) (t := .long) (t' := .boolean) (by decide) (by decide))))
  have F_addresses_107 : Fld Z h102 a "com/example/vitruvius/vitruvius/profile/ValueSummary" "addresses" "J" (.long (0 : Int64)) := (Fld.other W102 F_addresses (Or.inr (slot_ne (Or.inl (C.w (wd 25 rfl))) (Or.inl (C.w (wd 10 rfl))) (by decide) (t := .long) (t' := .boolean) (by decide) (by decide))))
  have F_uris_108 : Fld Z h102 a "com/example/vitruvius/vitruvius/profile/ValueSummary" "uris" "J" (.long (0 : Int64)) := (Fld.other W102 F_uris (Or.inr (slot_ne (Or.inl (C.w (wd 28 rfl))) (Or.inl (C.w (wd 10 rfl))) (by decide) (t := .long) (t' := .boolean) (by decide) (by decide))))
  have F_spaced_109 : Fld Z h102 a "com/example/vitruvius/vitruvius/profile/ValueSummary" "spaced" "J" (.long (0 : Int64)) := (Fld.other W102 F_spaced (Or.inr (slot_ne (Or.inl (C.w (wd 31 rfl))) (Or.inl (C.w (wd 10 rfl))) (by decide) (t := .long) (t' := .boolean) (by decide) (by decide))))
  have F_characters_110 : Fld Z h102 a "com/example/vitruvius/vitruvius/profile/ValueSummary" "characters" "J" (.long (0 : Int64)) := (Fld.other W102 F_characters (Or.inr (slot_ne (Or.inl (C.w (wd 34 rfl))) (Or.inl (C.w (wd 10 rfl))) (by decide) (t := .long) (t' := .boolean) (by decide) (by decide))))
  have F_maxBytes_111 : Fld Z h102 a "com/example/vitruvius/vitruvius/profile/ValueSummary" "maxBytes" "I" (.int (0 : Int32)) := (Fld.other W102 F_maxBytes (Or.inr (slot_ne (Or.inl (C.w (wd 75 rfl))) (Or.inl (C.w (wd 10 rfl))) (by decide) (t := .int) (t' := .boolean) (by decide) (by decide))))
  show Go p e below s n0 _ _ _ (T102.setTop (mkF m 9 #[.val (.ref a)] []))
  refine Go.st (fun _ => XS.aloadN X102.here C.hx rfl (hb C.hby d1_9) rfl rfl) ?_
  show Go p e below s n0 _ _ _ (T102.setTop (mkF m 10 #[.val (.ref a)] [(.ref a)]))
  refine Go.st (fun _ => XS.iconst X102.here C.hx rfl (hb C.hby d1_10)) ?_
  show Go p e below s n0 _ _ _ (T102.setTop (mkF m 11 #[.val (.ref a)] [(.int (1 : Int32)), (.ref a)]))
  refine Go.putF C X102 (wd 11 rfl) F_decimals_103 (Exa.wr W102 E) (Or.inl (wd 12 rfl)) (wd 1 rfl) (ty := .boolean) (by decide) rfl rfl ga d1_11 (fun T112 h112 X112 W112 F112 => ?_)
  have F_integers_113 : Fld Z h112 a "com/example/vitruvius/vitruvius/profile/ValueSummary" "integers" "Z" (.int (1 : Int32)) := (Fld.other W112 F102 (Or.inr (slot_ne (Or.inl (C.w (wd 10 rfl))) (Or.inl (C.w (wd 12 rfl))) (by decide) (t := .boolean) (t' := .boolean) (by decide) (by decide))))
  have F_booleans_114 : Fld Z h112 a "com/example/vitruvius/vitruvius/profile/ValueSummary" "booleans" "Z" (.int (0 : Int32)) := (Fld.other W112 F_booleans_104 (Or.inr (slot_ne (Or.inl (C.w (wd 14 rfl))) (Or.inl (C.w (wd 12 rfl))) (by decide) (t := .boolean) (t' := .boolean) (by decide) (by decide))))
  have F_values_115 : Fld Z h112 a "com/example/vitruvius/vitruvius/profile/ValueSummary" "values" "J" (.long (0 : Int64)) := (Fld.other W112 F_values_105 (Or.inr (slot_ne (Or.inl (C.w (wd 21 rfl))) (Or.inl (C.w (wd 12 rfl))) (by decide) (t := .long) (t' := .boolean) (by decide) (by decide))))
  have F_uuids_116 : Fld Z h112 a "com/example/vitruvius/vitruvius/profile/ValueSummary" "uuids" "J" (.long (0 : Int64)) := (Fld.other W112 F_uuids_106 (Or.inr (slot_ne (Or.inl (C.w (wd 23 rfl))) (Or.inl (C.w (wd 12 rfl))) (by decide) (t := .long) (t' := .boolean) (by decide) (by decide))))
  have F_addresses_117 : Fld Z h112 a "com/example/vitruvius/vitruvius/profile/ValueSummary" "addresses" "J" (.long (0 : Int64)) := (Fld.other W112 F_addresses_107 (Or.inr (slot_ne (Or.inl (C.w (wd 25 rfl))) (Or.inl (C.w (wd 12 rfl))) (by decide) (t := .long) (t' := .boolean) (by decide) (by decide))))
  have F_uris_118 : Fld Z h112 a "com/example/vitruvius/vitruvius/profile/ValueSummary" "uris" "J" (.long (0 : Int64)) := (Fld.other W112 F_uris_108 (Or.inr (slot_ne (Or.inl (C.w (wd 28 rfl))) (Or.inl (C.w (wd 12 rfl))) (by decide) (t := .long) (t' := .boolean) (by decide) (by decide))))
  have F_spaced_119 : Fld Z h112 a "com/example/vitruvius/vitruvius/profile/ValueSummary" "spaced" "J" (.long (0 : Int64)) := (Fld.other W112 F_spaced_109 (Or.inr (slot_ne (Or.inl (C.w (wd 31 rfl))) (Or.inl (C.w (wd 12 rfl))) (by decide) (t := .long) (t' := .boolean) (by decide) (by decide))))
  have F_characters_120 : Fld Z h112 a "com/example/vitruvius/vitruvius/profile/ValueSummary" "characters" "J" (.long (0 : Int64)) := (Fld.other W112 F_characters_110 (Or.inr (slot_ne (Or.inl (C.w (wd 34 rfl))) (Or.inl (C.w (wd 12 rfl))) (by decide) (t := .long) (t' := .boolean) (by decide) (by decide))))
  have F_maxBytes_121 : Fld Z h112 a "com/example/vitruvius/vitruvius/profile/ValueSummary" "maxBytes" "I" (.int (0 : Int32)) := (Fld.other W112 F_maxBytes_111 (Or.inr (slot_ne (Or.inl (C.w (wd 75 rfl))) (Or.inl (C.w (wd 12 rfl))) (by decide) (t := .int) (t' := .boolean) (by decide) (by decide))))
  show Go p e below s n0 _ _ _ (T112.setTop (mkF m 14 #[.val (.ref a)] []))
  refine Go.st (fun _ => XS.aloadN X112.here C.hx rfl (hb C.hby d1_14) rfl rfl) ?_
  show Go p e below s n0 _ _ _ (T112.setTop (mkF m 15 #[.val (.ref a)] [(.ref a)]))
  refine Go.st (fun _ => XS.iconst X112.here C.hx rfl (hb C.hby d1_15)) ?_
  show Go p e below s n0 _ _ _ (T112.setTop (mkF m 16 #[.val (.ref a)] [(.int (1 : Int32)), (.ref a)]))
  refine Go.putF C X112 (wd 13 rfl) F_booleans_114 (Exa.wr W112 (Exa.wr W102 E)) (Or.inl (wd 14 rfl)) (wd 1 rfl) (ty := .boolean) (by decide) rfl rfl ga d1_16 (fun T122 h122 X122 W122 F122 => ?_)
  have E_a_123 : Exa Z h122 a "com/example/vitruvius/vitruvius/profile/ValueSummary" := (Exa.wr W122 (Exa.wr W112 (Exa.wr W102 E)))
  have F_integers_124 : Fld Z h122 a "com/example/vitruvius/vitruvius/profile/ValueSummary" "integers" "Z" (.int (1 : Int32)) := (Fld.other W122 F_integers_113 (Or.inr (slot_ne (Or.inl (C.w (wd 10 rfl))) (Or.inl (C.w (wd 14 rfl))) (by decide) (t := .boolean) (t' := .boolean) (by decide) (by decide))))
  have F_decimals_125 : Fld Z h122 a "com/example/vitruvius/vitruvius/profile/ValueSummary" "decimals" "Z" (.int (1 : Int32)) := (Fld.other W122 F112 (Or.inr (slot_ne (Or.inl (C.w (wd 12 rfl))) (Or.inl (C.w (wd 14 rfl))) (by decide) (t := .boolean) (t' := .boolean) (by decide) (by decide))))
  have F_values_126 : Fld Z h122 a "com/example/vitruvius/vitruvius/profile/ValueSummary" "values" "J" (.long (0 : Int64)) := (Fld.other W122 F_values_115 (Or.inr (slot_ne (Or.inl (C.w (wd 21 rfl))) (Or.inl (C.w (wd 14 rfl))) (by decide) (t := .long) (t' := .boolean) (by decide) (by decide))))
  have F_uuids_127 : Fld Z h122 a "com/example/vitruvius/vitruvius/profile/ValueSummary" "uuids" "J" (.long (0 : Int64)) := (Fld.other W122 F_uuids_116 (Or.inr (slot_ne (Or.inl (C.w (wd 23 rfl))) (Or.inl (C.w (wd 14 rfl))) (by decide) (t := .long) (t' := .boolean) (by decide) (by decide))))
  have F_addresses_128 : Fld Z h122 a "com/example/vitruvius/vitruvius/profile/ValueSummary" "addresses" "J" (.long (0 : Int64)) := (Fld.other W122 F_addresses_117 (Or.inr (slot_ne (Or.inl (C.w (wd 25 rfl))) (Or.inl (C.w (wd 14 rfl))) (by decide) (t := .long) (t' := .boolean) (by decide) (by decide))))
  have F_uris_129 : Fld Z h122 a "com/example/vitruvius/vitruvius/profile/ValueSummary" "uris" "J" (.long (0 : Int64)) := (Fld.other W122 F_uris_118 (Or.inr (slot_ne (Or.inl (C.w (wd 28 rfl))) (Or.inl (C.w (wd 14 rfl))) (by decide) (t := .long) (t' := .boolean) (by decide) (by decide))))
  have F_spaced_130 : Fld Z h122 a "com/example/vitruvius/vitruvius/profile/ValueSummary" "spaced" "J" (.long (0 : Int64)) := (Fld.other W122 F_spaced_119 (Or.inr (slot_ne (Or.inl (C.w (wd 31 rfl))) (Or.inl (C.w (wd 14 rfl))) (by decide) (t := .long) (t' := .boolean) (by decide) (by decide))))
  have F_characters_131 : Fld Z h122 a "com/example/vitruvius/vitruvius/profile/ValueSummary" "characters" "J" (.long (0 : Int64)) := (Fld.other W122 F_characters_120 (Or.inr (slot_ne (Or.inl (C.w (wd 34 rfl))) (Or.inl (C.w (wd 14 rfl))) (by decide) (t := .long) (t' := .boolean) (by decide) (by decide))))
  have F_maxBytes_132 : Fld Z h122 a "com/example/vitruvius/vitruvius/profile/ValueSummary" "maxBytes" "I" (.int (0 : Int32)) := (Fld.other W122 F_maxBytes_121 (Or.inr (slot_ne (Or.inl (C.w (wd 75 rfl))) (Or.inl (C.w (wd 14 rfl))) (by decide) (t := .int) (t' := .boolean) (by decide) (by decide))))
  show Go p e below s n0 _ _ _ (T122.setTop (mkF m 19 #[.val (.ref a)] []))
  exact Go.retV C X122 d1_19 ⟨rfl, E_a_123, F_values_126, F_uuids_127, F_addresses_128, F_uris_129, F_spaced_130, F_characters_131, F_maxBytes_132⟩ (by decide) (by decide)
theorem d3_0 : decode prog_68_method_6_code 0 = .ok (.aload_n 0, 1) := by decide +kernel
theorem d3_1 : decode prog_68_method_6_code 1 = .ok (.dup, 1) := by decide +kernel
theorem d3_2 : decode prog_68_method_6_code 2 = .ok (.getfield 72, 3) := by decide +kernel
theorem d3_5 : decode prog_68_method_6_code 5 = .ok (.lload_n 3, 1) := by decide +kernel
theorem d3_6 : decode prog_68_method_6_code 6 = .ok (.ladd, 1) := by decide +kernel
theorem d3_7 : decode prog_68_method_6_code 7 = .ok (.putfield 72, 3) := by decide +kernel
theorem d3_10 : decode prog_68_method_6_code 10 = .ok (.aload_n 0, 1) := by decide +kernel
theorem d3_11 : decode prog_68_method_6_code 11 = .ok (.dup, 1) := by decide +kernel
theorem d3_12 : decode prog_68_method_6_code 12 = .ok (.getfield 76, 3) := by decide +kernel
theorem d3_15 : decode prog_68_method_6_code 15 = .ok (.lload_n 1, 1) := by decide +kernel
theorem d3_16 : decode prog_68_method_6_code 16 = .ok (.lconst 1, 1) := by decide +kernel
theorem d3_17 : decode prog_68_method_6_code 17 = .ok (.land, 1) := by decide +kernel
theorem d3_18 : decode prog_68_method_6_code 18 = .ok (.lconst 0, 1) := by decide +kernel
theorem d3_19 : decode prog_68_method_6_code 19 = .ok (.lcmp, 1) := by decide +kernel
theorem d3_20 : decode prog_68_method_6_code 20 = .ok (.ifCond .eq 7, 3) := by decide +kernel
theorem d3_23 : decode prog_68_method_6_code 23 = .ok (.lload_n 3, 1) := by decide +kernel
theorem d3_24 : decode prog_68_method_6_code 24 = .ok (.goto 4, 3) := by decide +kernel
theorem d3_27 : decode prog_68_method_6_code 27 = .ok (.lconst 0, 1) := by decide +kernel
theorem d3_28 : decode prog_68_method_6_code 28 = .ok (.ladd, 1) := by decide +kernel
theorem d3_29 : decode prog_68_method_6_code 29 = .ok (.putfield 76, 3) := by decide +kernel
theorem d3_32 : decode prog_68_method_6_code 32 = .ok (.aload_n 0, 1) := by decide +kernel
theorem d3_33 : decode prog_68_method_6_code 33 = .ok (.dup, 1) := by decide +kernel
theorem d3_34 : decode prog_68_method_6_code 34 = .ok (.getfield 79, 3) := by decide +kernel
theorem d3_37 : decode prog_68_method_6_code 37 = .ok (.lload_n 1, 1) := by decide +kernel
theorem d3_38 : decode prog_68_method_6_code 38 = .ok (.ldc2_w 63, 3) := by decide +kernel
theorem d3_41 : decode prog_68_method_6_code 41 = .ok (.land, 1) := by decide +kernel
theorem d3_42 : decode prog_68_method_6_code 42 = .ok (.lconst 0, 1) := by decide +kernel
theorem d3_43 : decode prog_68_method_6_code 43 = .ok (.lcmp, 1) := by decide +kernel
theorem d3_44 : decode prog_68_method_6_code 44 = .ok (.ifCond .eq 7, 3) := by decide +kernel
theorem d3_47 : decode prog_68_method_6_code 47 = .ok (.lload_n 3, 1) := by decide +kernel
theorem d3_48 : decode prog_68_method_6_code 48 = .ok (.goto 4, 3) := by decide +kernel
theorem d3_51 : decode prog_68_method_6_code 51 = .ok (.lconst 0, 1) := by decide +kernel
theorem d3_52 : decode prog_68_method_6_code 52 = .ok (.ladd, 1) := by decide +kernel
theorem d3_53 : decode prog_68_method_6_code 53 = .ok (.putfield 79, 3) := by decide +kernel
theorem d3_56 : decode prog_68_method_6_code 56 = .ok (.aload_n 0, 1) := by decide +kernel
theorem d3_57 : decode prog_68_method_6_code 57 = .ok (.dup, 1) := by decide +kernel
theorem d3_58 : decode prog_68_method_6_code 58 = .ok (.getfield 82, 3) := by decide +kernel
theorem d3_61 : decode prog_68_method_6_code 61 = .ok (.lload_n 1, 1) := by decide +kernel
theorem d3_62 : decode prog_68_method_6_code 62 = .ok (.ldc2_w 68, 3) := by decide +kernel
theorem d3_65 : decode prog_68_method_6_code 65 = .ok (.land, 1) := by decide +kernel
theorem d3_66 : decode prog_68_method_6_code 66 = .ok (.lconst 0, 1) := by decide +kernel
theorem d3_67 : decode prog_68_method_6_code 67 = .ok (.lcmp, 1) := by decide +kernel
theorem d3_68 : decode prog_68_method_6_code 68 = .ok (.ifCond .eq 7, 3) := by decide +kernel
theorem d3_71 : decode prog_68_method_6_code 71 = .ok (.lload_n 3, 1) := by decide +kernel
theorem d3_72 : decode prog_68_method_6_code 72 = .ok (.goto 4, 3) := by decide +kernel
theorem d3_75 : decode prog_68_method_6_code 75 = .ok (.lconst 0, 1) := by decide +kernel
theorem d3_76 : decode prog_68_method_6_code 76 = .ok (.ladd, 1) := by decide +kernel
theorem d3_77 : decode prog_68_method_6_code 77 = .ok (.putfield 82, 3) := by decide +kernel
theorem d3_80 : decode prog_68_method_6_code 80 = .ok (.aload_n 0, 1) := by decide +kernel
theorem d3_81 : decode prog_68_method_6_code 81 = .ok (.dup, 1) := by decide +kernel
theorem d3_82 : decode prog_68_method_6_code 82 = .ok (.getfield 85, 3) := by decide +kernel
theorem d3_85 : decode prog_68_method_6_code 85 = .ok (.lload_n 1, 1) := by decide +kernel
theorem d3_86 : decode prog_68_method_6_code 86 = .ok (.ldc2_w 70, 3) := by decide +kernel
theorem d3_89 : decode prog_68_method_6_code 89 = .ok (.land, 1) := by decide +kernel
theorem d3_90 : decode prog_68_method_6_code 90 = .ok (.lconst 0, 1) := by decide +kernel
theorem d3_91 : decode prog_68_method_6_code 91 = .ok (.lcmp, 1) := by decide +kernel
theorem d3_92 : decode prog_68_method_6_code 92 = .ok (.ifCond .eq 7, 3) := by decide +kernel
theorem d3_95 : decode prog_68_method_6_code 95 = .ok (.lload_n 3, 1) := by decide +kernel
theorem d3_96 : decode prog_68_method_6_code 96 = .ok (.goto 4, 3) := by decide +kernel
theorem d3_99 : decode prog_68_method_6_code 99 = .ok (.lconst 0, 1) := by decide +kernel
theorem d3_100 : decode prog_68_method_6_code 100 = .ok (.ladd, 1) := by decide +kernel
theorem d3_101 : decode prog_68_method_6_code 101 = .ok (.putfield 85, 3) := by decide +kernel
theorem d3_104 : decode prog_68_method_6_code 104 = .ok (.aload_n 0, 1) := by decide +kernel
theorem d3_105 : decode prog_68_method_6_code 105 = .ok (.dup, 1) := by decide +kernel
theorem d3_106 : decode prog_68_method_6_code 106 = .ok (.getfield 88, 3) := by decide +kernel
theorem d3_109 : decode prog_68_method_6_code 109 = .ok (.lload_n 3, 1) := by decide +kernel
theorem d3_110 : decode prog_68_method_6_code 110 = .ok (.lload_n 1, 1) := by decide +kernel
theorem d3_111 : decode prog_68_method_6_code 111 = .ok (.iconst 4, 1) := by decide +kernel
theorem d3_112 : decode prog_68_method_6_code 112 = .ok (.lushr, 1) := by decide +kernel
theorem d3_113 : decode prog_68_method_6_code 113 = .ok (.lmul, 1) := by decide +kernel
theorem d3_114 : decode prog_68_method_6_code 114 = .ok (.ladd, 1) := by decide +kernel
theorem d3_115 : decode prog_68_method_6_code 115 = .ok (.putfield 88, 3) := by decide +kernel
theorem d3_118 : decode prog_68_method_6_code 118 = .ok (.return_, 1) := by decide +kernel
theorem pf_3 : plainFor (⟨"com/example/vitruvius/vitruvius/profile/ValueSummary", "add", "(JJ)V"⟩ : MethodName) = true := plainFor_of_name (by first | (simp [plainName, overriddenIn]; done) | decide +kernel)
theorem pd_3 : parseMethodDescriptor "(JJ)V" = some ⟨[.long, .long], none⟩ := by decide +kernel
set_option maxRecDepth 65536 in
set_option maxHeartbeats 40000000 in
theorem con_add (l : Launch) (Z : State) (a0 : Array Value) (hw : ∀ d ∈ tables_1, d.before a0 Z = true) (n0 : Nat) (h0 : Heap) (Z0 : n0 ≤ h0.size) (a : Addr) (f n : Int64) (v0 v1 v2 v3 v4 v5 : Int64) (ga : n0 ≤ a) (E : Exa Z h0 a "com/example/vitruvius/vitruvius/profile/ValueSummary") (F_values : Fld Z h0 a "com/example/vitruvius/vitruvius/profile/ValueSummary" "values" "J" (.long v0)) (F_uuids : Fld Z h0 a "com/example/vitruvius/vitruvius/profile/ValueSummary" "uuids" "J" (.long v1)) (F_addresses : Fld Z h0 a "com/example/vitruvius/vitruvius/profile/ValueSummary" "addresses" "J" (.long v2)) (F_uris : Fld Z h0 a "com/example/vitruvius/vitruvius/profile/ValueSummary" "uris" "J" (.long v3)) (F_spaced : Fld Z h0 a "com/example/vitruvius/vitruvius/profile/ValueSummary" "spaced" "J" (.long v4)) (F_characters : Fld Z h0 a "com/example/vitruvius/vitruvius/profile/ValueSummary" "characters" "J" (.long v5)) (F_maxBytes : Fld Z h0 a "com/example/vitruvius/vitruvius/profile/ValueSummary" "maxBytes" "I" (.int (0 : Int32))) :
    Con l Z (⟨"com/example/vitruvius/vitruvius/profile/ValueSummary", "add", "(JJ)V"⟩ : MethodName) prog_68_method_6_code 5 none [] ({ frames := 0, cells := 0, slots := 0, locals := 0 } : Room) n0 #[(.ref a), (.long f), (.long n)] h0 (fun v h => v = none ∧ Exa Z h a "com/example/vitruvius/vitruvius/profile/ValueSummary" ∧ Fld Z h a "com/example/vitruvius/vitruvius/profile/ValueSummary" "values" "J" (.long (v0 + n)) ∧ Fld Z h a "com/example/vitruvius/vitruvius/profile/ValueSummary" "uuids" "J" (.long (v1 + sel (f &&& (1 : Int64)) n)) ∧ Fld Z h a "com/example/vitruvius/vitruvius/profile/ValueSummary" "addresses" "J" (.long (v2 + sel (f &&& (2 : Int64)) n)) ∧ Fld Z h a "com/example/vitruvius/vitruvius/profile/ValueSummary" "uris" "J" (.long (v3 + sel (f &&& (4 : Int64)) n)) ∧ Fld Z h a "com/example/vitruvius/vitruvius/profile/ValueSummary" "spaced" "J" (.long (v4 + sel (f &&& (8 : Int64)) n)) ∧ Fld Z h a "com/example/vitruvius/vitruvius/profile/ValueSummary" "characters" "J" (.long (v5 + (n * (lus f (4 : Int32))))) ∧ Fld Z h a "com/example/vitruvius/vitruvius/profile/ValueSummary" "maxBytes" "I" (.int (0 : Int32))) := by
  refine Con.mk pf_3 hw Z0 ?_
  intro p e s m below meth c T0 C X0
  have ef : entryFrame m #[(.ref a), (.long f), (.long n)] 5 = mkF m 0 #[.val (.ref a), .val (.long f), .second, .val (.long n), .second] [] := by first | (simp [entryFrame, mkF, argsToLocals, Value.category]; done) | rfl
  rw [ef]
  show Go p e below s n0 _ _ _ (T0.setTop (mkF m 0 #[.val (.ref a), .val (.long f), .second, .val (.long n), .second] []))
  refine Go.st (fun _ => XS.aloadN X0.here C.hx rfl (hb C.hby d3_0) rfl rfl) ?_
  show Go p e below s n0 _ _ _ (T0.setTop (mkF m 1 #[.val (.ref a), .val (.long f), .second, .val (.long n), .second] [(.ref a)]))
  refine Go.st (fun _ => XS.dup X0.here C.hx rfl (hb C.hby d3_1) rfl rfl) ?_
  show Go p e below s n0 _ _ _ (T0.setTop (mkF m 2 #[.val (.ref a), .val (.long f), .second, .val (.long n), .second] [(.ref a), (.ref a)]))
  refine Go.getF C X0 (wd 20 rfl) F_values d3_2 (fun T133 X133 => ?_)
  show Go p e below s n0 _ _ _ (T133.setTop (mkF m 5 #[.val (.ref a), .val (.long f), .second, .val (.long n), .second] [(.long v0), (.ref a)]))
  refine Go.st (fun _ => XS.lloadN X133.here C.hx rfl (hb C.hby d3_5) rfl) ?_
  show Go p e below s n0 _ _ _ (T133.setTop (mkF m 6 #[.val (.ref a), .val (.long f), .second, .val (.long n), .second] [(.long n), (.long v0), (.ref a)]))
  refine Go.st (fun _ => XS.ladd X133.here C.hx rfl (hb C.hby d3_6) rfl) ?_
  show Go p e below s n0 _ _ _ (T133.setTop (mkF m 7 #[.val (.ref a), .val (.long f), .second, .val (.long n), .second] [(.long (v0 + n)), (.ref a)]))
  refine Go.putF C X133 (wd 20 rfl) F_values E (Or.inl (wd 21 rfl)) (wd 1 rfl) (ty := .long) (by decide) rfl rfl ga d3_7 (fun T134 h134 X134 W134 F134 => ?_)
  have F_uuids_135 : Fld Z h134 a "com/example/vitruvius/vitruvius/profile/ValueSummary" "uuids" "J" (.long v1) := (Fld.other W134 F_uuids (Or.inr (slot_ne (Or.inl (C.w (wd 23 rfl))) (Or.inl (C.w (wd 21 rfl))) (by decide) (t := .long) (t' := .long) (by decide) (by decide))))
  have F_addresses_136 : Fld Z h134 a "com/example/vitruvius/vitruvius/profile/ValueSummary" "addresses" "J" (.long v2) := (Fld.other W134 F_addresses (Or.inr (slot_ne (Or.inl (C.w (wd 25 rfl))) (Or.inl (C.w (wd 21 rfl))) (by decide) (t := .long) (t' := .long) (by decide) (by decide))))
  have F_uris_137 : Fld Z h134 a "com/example/vitruvius/vitruvius/profile/ValueSummary" "uris" "J" (.long v3) := (Fld.other W134 F_uris (Or.inr (slot_ne (Or.inl (C.w (wd 28 rfl))) (Or.inl (C.w (wd 21 rfl))) (by decide) (t := .long) (t' := .long) (by decide) (by decide))))
  have F_spaced_138 : Fld Z h134 a "com/example/vitruvius/vitruvius/profile/ValueSummary" "spaced" "J" (.long v4) := (Fld.other W134 F_spaced (Or.inr (slot_ne (Or.inl (C.w (wd 31 rfl))) (Or.inl (C.w (wd 21 rfl))) (by decide) (t := .long) (t' := .long) (by decide) (by decide))))
  have F_characters_139 : Fld Z h134 a "com/example/vitruvius/vitruvius/profile/ValueSummary" "characters" "J" (.long v5) := (Fld.other W134 F_characters (Or.inr (slot_ne (Or.inl (C.w (wd 34 rfl))) (Or.inl (C.w (wd 21 rfl))) (by decide) (t := .long) (t' := .long) (by decide) (by decide))))
  have F_maxBytes_140 : Fld Z h134 a "com/example/vitruvius/vitruvius/profile/ValueSummary" "maxBytes" "I" (.int (0 : Int32)) := (Fld.other W134 F_maxBytes (Or.inr (slot_ne (Or.inl (C.w (wd 75 rfl))) (Or.inl (C.w (wd 21 rfl))) (by decide) (t := .int) (t' := .long) (by decide) (by decide))))
  show Go p e below s n0 _ _ _ (T134.setTop (mkF m 10 #[.val (.ref a), .val (.long f), .second, .val (.long n), .second] []))
  refine Go.st (fun _ => XS.aloadN X134.here C.hx rfl (hb C.hby d3_10) rfl rfl) ?_
  show Go p e below s n0 _ _ _ (T134.setTop (mkF m 11 #[.val (.ref a), .val (.long f), .second, .val (.long n), .second] [(.ref a)]))
  refine Go.st (fun _ => XS.dup X134.here C.hx rfl (hb C.hby d3_11) rfl rfl) ?_
  show Go p e below s n0 _ _ _ (T134.setTop (mkF m 12 #[.val (.ref a), .val (.long f), .second, .val (.long n), .second] [(.ref a), (.ref a)]))
  refine Go.getF C X134 (wd 22 rfl) F_uuids_135 d3_12 (fun T141 X141 => ?_)
  show Go p e below s n0 _ _ _ (T141.setTop (mkF m 15 #[.val (.ref a), .val (.long f), .second, .val (.long n), .second] [(.long v1), (.ref a)]))
  refine Go.st (fun _ => XS.lloadN X141.here C.hx rfl (hb C.hby d3_15) rfl) ?_
  show Go p e below s n0 _ _ _ (T141.setTop (mkF m 16 #[.val (.ref a), .val (.long f), .second, .val (.long n), .second] [(.long f), (.long v1), (.ref a)]))
  refine Go.st (fun _ => XS.lconst X141.here C.hx rfl (hb C.hby d3_16)) ?_
  show Go p e below s n0 _ _ _ (T141.setTop (mkF m 17 #[.val (.ref a), .val (.long f), .second, .val (.long n), .second] [(.long (1 : Int64)), (.long f), (.long v1), (.ref a)]))
  refine Go.st (fun _ => XS.land X141.here C.hx rfl (hb C.hby d3_17) rfl) ?_
  show Go p e below s n0 _ _ _ (T141.setTop (mkF m 18 #[.val (.ref a), .val (.long f), .second, .val (.long n), .second] [(.long (f &&& (1 : Int64))), (.long v1), (.ref a)]))
  refine Go.st (fun _ => XS.lconst X141.here C.hx rfl (hb C.hby d3_18)) ?_
  show Go p e below s n0 _ _ _ (T141.setTop (mkF m 19 #[.val (.ref a), .val (.long f), .second, .val (.long n), .second] [(.long (0 : Int64)), (.long (f &&& (1 : Int64))), (.long v1), (.ref a)]))
  refine Go.st (fun _ => XS.lcmp X141.here C.hx rfl (hb C.hby d3_19) rfl) ?_
  show Go p e below s n0 _ _ _ (T141.setTop (mkF m 20 #[.val (.ref a), .val (.long f), .second, .val (.long n), .second] [(.int (lcmpW (f &&& (1 : Int64)) (0 : Int64))), (.long v1), (.ref a)]))
  have J143 : ∀ (TJ143 : State) (u0 : Int64), St p l e ({ frames := 0, cells := 0, slots := 0, locals := 0 } : Room) s m #[(.ref a), (.long f), (.long n)] below meth c n0 TJ143 h134 0 0 → u0 = sel (f &&& (1 : Int64)) n → Go p e below s n0 (({ frames := 0, cells := 0, slots := 0, locals := 0 } : Room)).cells (({ frames := 0, cells := 0, slots := 0, locals := 0 } : Room)).slots (fun v h => v = none ∧ Exa Z h a "com/example/vitruvius/vitruvius/profile/ValueSummary" ∧ Fld Z h a "com/example/vitruvius/vitruvius/profile/ValueSummary" "values" "J" (.long (v0 + n)) ∧ Fld Z h a "com/example/vitruvius/vitruvius/profile/ValueSummary" "uuids" "J" (.long (v1 + sel (f &&& (1 : Int64)) n)) ∧ Fld Z h a "com/example/vitruvius/vitruvius/profile/ValueSummary" "addresses" "J" (.long (v2 + sel (f &&& (2 : Int64)) n)) ∧ Fld Z h a "com/example/vitruvius/vitruvius/profile/ValueSummary" "uris" "J" (.long (v3 + sel (f &&& (4 : Int64)) n)) ∧ Fld Z h a "com/example/vitruvius/vitruvius/profile/ValueSummary" "spaced" "J" (.long (v4 + sel (f &&& (8 : Int64)) n)) ∧ Fld Z h a "com/example/vitruvius/vitruvius/profile/ValueSummary" "characters" "J" (.long (v5 + (n * (lus f (4 : Int32))))) ∧ Fld Z h a "com/example/vitruvius/vitruvius/profile/ValueSummary" "maxBytes" "I" (.int (0 : Int32))) (TJ143.setTop (mkF m 28 #[.val (.ref a), .val (.long f), .second, .val (.long n), .second] [(.long u0), (.long v1), (.ref a)])) := by
    intro TJ143 u0 XJ143 hj_u0
    show Go p e below s n0 _ _ _ (TJ143.setTop (mkF m 28 #[.val (.ref a), .val (.long f), .second, .val (.long n), .second] [(.long u0), (.long v1), (.ref a)]))
    refine Go.st (fun _ => XS.ladd XJ143.here C.hx rfl (hb C.hby d3_28) rfl) ?_
    show Go p e below s n0 _ _ _ (TJ143.setTop (mkF m 29 #[.val (.ref a), .val (.long f), .second, .val (.long n), .second] [(.long (v1 + u0)), (.ref a)]))
    refine Go.putF C XJ143 (wd 22 rfl) F_uuids_135 (Exa.wr W134 E) (Or.inl (wd 23 rfl)) (wd 1 rfl) (ty := .long) (by decide) rfl rfl ga d3_29 (fun T144 h144 X144 W144 F144 => ?_)
    have F_values_145 : Fld Z h144 a "com/example/vitruvius/vitruvius/profile/ValueSummary" "values" "J" (.long (v0 + n)) := (Fld.other W144 F134 (Or.inr (slot_ne (Or.inl (C.w (wd 21 rfl))) (Or.inl (C.w (wd 23 rfl))) (by decide) (t := .long) (t' := .long) (by decide) (by decide))))
    have F_addresses_146 : Fld Z h144 a "com/example/vitruvius/vitruvius/profile/ValueSummary" "addresses" "J" (.long v2) := (Fld.other W144 F_addresses_136 (Or.inr (slot_ne (Or.inl (C.w (wd 25 rfl))) (Or.inl (C.w (wd 23 rfl))) (by decide) (t := .long) (t' := .long) (by decide) (by decide))))
    have F_uris_147 : Fld Z h144 a "com/example/vitruvius/vitruvius/profile/ValueSummary" "uris" "J" (.long v3) := (Fld.other W144 F_uris_137 (Or.inr (slot_ne (Or.inl (C.w (wd 28 rfl))) (Or.inl (C.w (wd 23 rfl))) (by decide) (t := .long) (t' := .long) (by decide) (by decide))))
    have F_spaced_148 : Fld Z h144 a "com/example/vitruvius/vitruvius/profile/ValueSummary" "spaced" "J" (.long v4) := (Fld.other W144 F_spaced_138 (Or.inr (slot_ne (Or.inl (C.w (wd 31 rfl))) (Or.inl (C.w (wd 23 rfl))) (by decide) (t := .long) (t' := .long) (by decide) (by decide))))
    have F_characters_149 : Fld Z h144 a "com/example/vitruvius/vitruvius/profile/ValueSummary" "characters" "J" (.long v5) := (Fld.other W144 F_characters_139 (Or.inr (slot_ne (Or.inl (C.w (wd 34 rfl))) (Or.inl (C.w (wd 23 rfl))) (by decide) (t := .long) (t' := .long) (by decide) (by decide))))
    have F_maxBytes_150 : Fld Z h144 a "com/example/vitruvius/vitruvius/profile/ValueSummary" "maxBytes" "I" (.int (0 : Int32)) := (Fld.other W144 F_maxBytes_140 (Or.inr (slot_ne (Or.inl (C.w (wd 75 rfl))) (Or.inl (C.w (wd 23 rfl))) (by decide) (t := .int) (t' := .long) (by decide) (by decide))))
    show Go p e below s n0 _ _ _ (T144.setTop (mkF m 32 #[.val (.ref a), .val (.long f), .second, .val (.long n), .second] []))
    refine Go.st (fun _ => XS.aloadN X144.here C.hx rfl (hb C.hby d3_32) rfl rfl) ?_
    show Go p e below s n0 _ _ _ (T144.setTop (mkF m 33 #[.val (.ref a), .val (.long f), .second, .val (.long n), .second] [(.ref a)]))
    refine Go.st (fun _ => XS.dup X144.here C.hx rfl (hb C.hby d3_33) rfl rfl) ?_
    show Go p e below s n0 _ _ _ (T144.setTop (mkF m 34 #[.val (.ref a), .val (.long f), .second, .val (.long n), .second] [(.ref a), (.ref a)]))
    refine Go.getF C X144 (wd 24 rfl) F_addresses_146 d3_34 (fun T151 X151 => ?_)
    show Go p e below s n0 _ _ _ (T151.setTop (mkF m 37 #[.val (.ref a), .val (.long f), .second, .val (.long n), .second] [(.long v2), (.ref a)]))
    refine Go.st (fun _ => XS.lloadN X151.here C.hx rfl (hb C.hby d3_37) rfl) ?_
    show Go p e below s n0 _ _ _ (T151.setTop (mkF m 38 #[.val (.ref a), .val (.long f), .second, .val (.long n), .second] [(.long f), (.long v2), (.ref a)]))
    refine Go.ldcJ C X151 (wd 26 rfl) d3_38 ?_
    show Go p e below s n0 _ _ _ (T151.setTop (mkF m 41 #[.val (.ref a), .val (.long f), .second, .val (.long n), .second] [(.long (2 : Int64)), (.long f), (.long v2), (.ref a)]))
    refine Go.st (fun _ => XS.land X151.here C.hx rfl (hb C.hby d3_41) rfl) ?_
    show Go p e below s n0 _ _ _ (T151.setTop (mkF m 42 #[.val (.ref a), .val (.long f), .second, .val (.long n), .second] [(.long (f &&& (2 : Int64))), (.long v2), (.ref a)]))
    refine Go.st (fun _ => XS.lconst X151.here C.hx rfl (hb C.hby d3_42)) ?_
    show Go p e below s n0 _ _ _ (T151.setTop (mkF m 43 #[.val (.ref a), .val (.long f), .second, .val (.long n), .second] [(.long (0 : Int64)), (.long (f &&& (2 : Int64))), (.long v2), (.ref a)]))
    refine Go.st (fun _ => XS.lcmp X151.here C.hx rfl (hb C.hby d3_43) rfl) ?_
    show Go p e below s n0 _ _ _ (T151.setTop (mkF m 44 #[.val (.ref a), .val (.long f), .second, .val (.long n), .second] [(.int (lcmpW (f &&& (2 : Int64)) (0 : Int64))), (.long v2), (.ref a)]))
    have J153 : ∀ (TJ153 : State) (u1 : Int64), St p l e ({ frames := 0, cells := 0, slots := 0, locals := 0 } : Room) s m #[(.ref a), (.long f), (.long n)] below meth c n0 TJ153 h144 0 0 → u1 = sel (f &&& (2 : Int64)) n → Go p e below s n0 (({ frames := 0, cells := 0, slots := 0, locals := 0 } : Room)).cells (({ frames := 0, cells := 0, slots := 0, locals := 0 } : Room)).slots (fun v h => v = none ∧ Exa Z h a "com/example/vitruvius/vitruvius/profile/ValueSummary" ∧ Fld Z h a "com/example/vitruvius/vitruvius/profile/ValueSummary" "values" "J" (.long (v0 + n)) ∧ Fld Z h a "com/example/vitruvius/vitruvius/profile/ValueSummary" "uuids" "J" (.long (v1 + sel (f &&& (1 : Int64)) n)) ∧ Fld Z h a "com/example/vitruvius/vitruvius/profile/ValueSummary" "addresses" "J" (.long (v2 + sel (f &&& (2 : Int64)) n)) ∧ Fld Z h a "com/example/vitruvius/vitruvius/profile/ValueSummary" "uris" "J" (.long (v3 + sel (f &&& (4 : Int64)) n)) ∧ Fld Z h a "com/example/vitruvius/vitruvius/profile/ValueSummary" "spaced" "J" (.long (v4 + sel (f &&& (8 : Int64)) n)) ∧ Fld Z h a "com/example/vitruvius/vitruvius/profile/ValueSummary" "characters" "J" (.long (v5 + (n * (lus f (4 : Int32))))) ∧ Fld Z h a "com/example/vitruvius/vitruvius/profile/ValueSummary" "maxBytes" "I" (.int (0 : Int32))) (TJ153.setTop (mkF m 52 #[.val (.ref a), .val (.long f), .second, .val (.long n), .second] [(.long u1), (.long v2), (.ref a)])) := by
      intro TJ153 u1 XJ153 hj_u1
      show Go p e below s n0 _ _ _ (TJ153.setTop (mkF m 52 #[.val (.ref a), .val (.long f), .second, .val (.long n), .second] [(.long u1), (.long v2), (.ref a)]))
      refine Go.st (fun _ => XS.ladd XJ153.here C.hx rfl (hb C.hby d3_52) rfl) ?_
      show Go p e below s n0 _ _ _ (TJ153.setTop (mkF m 53 #[.val (.ref a), .val (.long f), .second, .val (.long n), .second] [(.long (v2 + u1)), (.ref a)]))
      refine Go.putF C XJ153 (wd 24 rfl) F_addresses_146 (Exa.wr W144 (Exa.wr W134 E)) (Or.inl (wd 25 rfl)) (wd 1 rfl) (ty := .long) (by decide) rfl rfl ga d3_53 (fun T154 h154 X154 W154 F154 => ?_)
      have E_a_155 : Exa Z h154 a "com/example/vitruvius/vitruvius/profile/ValueSummary" := (Exa.wr W154 (Exa.wr W144 (Exa.wr W134 E)))
      have F_values_156 : Fld Z h154 a "com/example/vitruvius/vitruvius/profile/ValueSummary" "values" "J" (.long (v0 + n)) := (Fld.other W154 F_values_145 (Or.inr (slot_ne (Or.inl (C.w (wd 21 rfl))) (Or.inl (C.w (wd 25 rfl))) (by decide) (t := .long) (t' := .long) (by decide) (by decide))))
      have F_uuids_157 : Fld Z h154 a "com/example/vitruvius/vitruvius/profile/ValueSummary" "uuids" "J" (.long (v1 + u0)) := (Fld.other W154 F144 (Or.inr (slot_ne (Or.inl (C.w (wd 23 rfl))) (Or.inl (C.w (wd 25 rfl))) (by decide) (t := .long) (t' := .long) (by decide) (by decide))))
      have F_uris_158 : Fld Z h154 a "com/example/vitruvius/vitruvius/profile/ValueSummary" "uris" "J" (.long v3) := (Fld.other W154 F_uris_147 (Or.inr (slot_ne (Or.inl (C.w (wd 28 rfl))) (Or.inl (C.w (wd 25 rfl))) (by decide) (t := .long) (t' := .long) (by decide) (by decide))))
      have F_spaced_159 : Fld Z h154 a "com/example/vitruvius/vitruvius/profile/ValueSummary" "spaced" "J" (.long v4) := (Fld.other W154 F_spaced_148 (Or.inr (slot_ne (Or.inl (C.w (wd 31 rfl))) (Or.inl (C.w (wd 25 rfl))) (by decide) (t := .long) (t' := .long) (by decide) (by decide))))
      have F_characters_160 : Fld Z h154 a "com/example/vitruvius/vitruvius/profile/ValueSummary" "characters" "J" (.long v5) := (Fld.other W154 F_characters_149 (Or.inr (slot_ne (Or.inl (C.w (wd 34 rfl))) (Or.inl (C.w (wd 25 rfl))) (by decide) (t := .long) (t' := .long) (by decide) (by decide))))
      have F_maxBytes_161 : Fld Z h154 a "com/example/vitruvius/vitruvius/profile/ValueSummary" "maxBytes" "I" (.int (0 : Int32)) := (Fld.other W154 F_maxBytes_150 (Or.inr (slot_ne (Or.inl (C.w (wd 75 rfl))) (Or.inl (C.w (wd 25 rfl))) (by decide) (t := .int) (t' := .long) (by decide) (by decide))))
      show Go p e below s n0 _ _ _ (T154.setTop (mkF m 56 #[.val (.ref a), .val (.long f), .second, .val (.long n), .second] []))
      refine Go.st (fun _ => XS.aloadN X154.here C.hx rfl (hb C.hby d3_56) rfl rfl) ?_
      show Go p e below s n0 _ _ _ (T154.setTop (mkF m 57 #[.val (.ref a), .val (.long f), .second, .val (.long n), .second] [(.ref a)]))
      refine Go.st (fun _ => XS.dup X154.here C.hx rfl (hb C.hby d3_57) rfl rfl) ?_
      show Go p e below s n0 _ _ _ (T154.setTop (mkF m 58 #[.val (.ref a), .val (.long f), .second, .val (.long n), .second] [(.ref a), (.ref a)]))
      refine Go.getF C X154 (wd 27 rfl) F_uris_158 d3_58 (fun T162 X162 => ?_)
      show Go p e below s n0 _ _ _ (T162.setTop (mkF m 61 #[.val (.ref a), .val (.long f), .second, .val (.long n), .second] [(.long v3), (.ref a)]))
      refine Go.st (fun _ => XS.lloadN X162.here C.hx rfl (hb C.hby d3_61) rfl) ?_
      show Go p e below s n0 _ _ _ (T162.setTop (mkF m 62 #[.val (.ref a), .val (.long f), .second, .val (.long n), .second] [(.long f), (.long v3), (.ref a)]))
      refine Go.ldcJ C X162 (wd 29 rfl) d3_62 ?_
      show Go p e below s n0 _ _ _ (T162.setTop (mkF m 65 #[.val (.ref a), .val (.long f), .second, .val (.long n), .second] [(.long (4 : Int64)), (.long f), (.long v3), (.ref a)]))
      refine Go.st (fun _ => XS.land X162.here C.hx rfl (hb C.hby d3_65) rfl) ?_
      show Go p e below s n0 _ _ _ (T162.setTop (mkF m 66 #[.val (.ref a), .val (.long f), .second, .val (.long n), .second] [(.long (f &&& (4 : Int64))), (.long v3), (.ref a)]))
      refine Go.st (fun _ => XS.lconst X162.here C.hx rfl (hb C.hby d3_66)) ?_
      show Go p e below s n0 _ _ _ (T162.setTop (mkF m 67 #[.val (.ref a), .val (.long f), .second, .val (.long n), .second] [(.long (0 : Int64)), (.long (f &&& (4 : Int64))), (.long v3), (.ref a)]))
      refine Go.st (fun _ => XS.lcmp X162.here C.hx rfl (hb C.hby d3_67) rfl) ?_
      show Go p e below s n0 _ _ _ (T162.setTop (mkF m 68 #[.val (.ref a), .val (.long f), .second, .val (.long n), .second] [(.int (lcmpW (f &&& (4 : Int64)) (0 : Int64))), (.long v3), (.ref a)]))
      have J164 : ∀ (TJ164 : State) (u2 : Int64), St p l e ({ frames := 0, cells := 0, slots := 0, locals := 0 } : Room) s m #[(.ref a), (.long f), (.long n)] below meth c n0 TJ164 h154 0 0 → u2 = sel (f &&& (4 : Int64)) n → Go p e below s n0 (({ frames := 0, cells := 0, slots := 0, locals := 0 } : Room)).cells (({ frames := 0, cells := 0, slots := 0, locals := 0 } : Room)).slots (fun v h => v = none ∧ Exa Z h a "com/example/vitruvius/vitruvius/profile/ValueSummary" ∧ Fld Z h a "com/example/vitruvius/vitruvius/profile/ValueSummary" "values" "J" (.long (v0 + n)) ∧ Fld Z h a "com/example/vitruvius/vitruvius/profile/ValueSummary" "uuids" "J" (.long (v1 + sel (f &&& (1 : Int64)) n)) ∧ Fld Z h a "com/example/vitruvius/vitruvius/profile/ValueSummary" "addresses" "J" (.long (v2 + sel (f &&& (2 : Int64)) n)) ∧ Fld Z h a "com/example/vitruvius/vitruvius/profile/ValueSummary" "uris" "J" (.long (v3 + sel (f &&& (4 : Int64)) n)) ∧ Fld Z h a "com/example/vitruvius/vitruvius/profile/ValueSummary" "spaced" "J" (.long (v4 + sel (f &&& (8 : Int64)) n)) ∧ Fld Z h a "com/example/vitruvius/vitruvius/profile/ValueSummary" "characters" "J" (.long (v5 + (n * (lus f (4 : Int32))))) ∧ Fld Z h a "com/example/vitruvius/vitruvius/profile/ValueSummary" "maxBytes" "I" (.int (0 : Int32))) (TJ164.setTop (mkF m 76 #[.val (.ref a), .val (.long f), .second, .val (.long n), .second] [(.long u2), (.long v3), (.ref a)])) := by
        intro TJ164 u2 XJ164 hj_u2
        show Go p e below s n0 _ _ _ (TJ164.setTop (mkF m 76 #[.val (.ref a), .val (.long f), .second, .val (.long n), .second] [(.long u2), (.long v3), (.ref a)]))
        refine Go.st (fun _ => XS.ladd XJ164.here C.hx rfl (hb C.hby d3_76) rfl) ?_
        show Go p e below s n0 _ _ _ (TJ164.setTop (mkF m 77 #[.val (.ref a), .val (.long f), .second, .val (.long n), .second] [(.long (v3 + u2)), (.ref a)]))
        refine Go.putF C XJ164 (wd 27 rfl) F_uris_158 E_a_155 (Or.inl (wd 28 rfl)) (wd 1 rfl) (ty := .long) (by decide) rfl rfl ga d3_77 (fun T165 h165 X165 W165 F165 => ?_)
        have F_values_166 : Fld Z h165 a "com/example/vitruvius/vitruvius/profile/ValueSummary" "values" "J" (.long (v0 + n)) := (Fld.other W165 F_values_156 (Or.inr (slot_ne (Or.inl (C.w (wd 21 rfl))) (Or.inl (C.w (wd 28 rfl))) (by decide) (t := .long) (t' := .long) (by decide) (by decide))))
        have F_uuids_167 : Fld Z h165 a "com/example/vitruvius/vitruvius/profile/ValueSummary" "uuids" "J" (.long (v1 + u0)) := (Fld.other W165 F_uuids_157 (Or.inr (slot_ne (Or.inl (C.w (wd 23 rfl))) (Or.inl (C.w (wd 28 rfl))) (by decide) (t := .long) (t' := .long) (by decide) (by decide))))
        have F_addresses_168 : Fld Z h165 a "com/example/vitruvius/vitruvius/profile/ValueSummary" "addresses" "J" (.long (v2 + u1)) := (Fld.other W165 F154 (Or.inr (slot_ne (Or.inl (C.w (wd 25 rfl))) (Or.inl (C.w (wd 28 rfl))) (by decide) (t := .long) (t' := .long) (by decide) (by decide))))
        have F_spaced_169 : Fld Z h165 a "com/example/vitruvius/vitruvius/profile/ValueSummary" "spaced" "J" (.long v4) := (Fld.other W165 F_spaced_159 (Or.inr (slot_ne (Or.inl (C.w (wd 31 rfl))) (Or.inl (C.w (wd 28 rfl))) (by decide) (t := .long) (t' := .long) (by decide) (by decide))))
        have F_characters_170 : Fld Z h165 a "com/example/vitruvius/vitruvius/profile/ValueSummary" "characters" "J" (.long v5) := (Fld.other W165 F_characters_160 (Or.inr (slot_ne (Or.inl (C.w (wd 34 rfl))) (Or.inl (C.w (wd 28 rfl))) (by decide) (t := .long) (t' := .long) (by decide) (by decide))))
        have F_maxBytes_171 : Fld Z h165 a "com/example/vitruvius/vitruvius/profile/ValueSummary" "maxBytes" "I" (.int (0 : Int32)) := (Fld.other W165 F_maxBytes_161 (Or.inr (slot_ne (Or.inl (C.w (wd 75 rfl))) (Or.inl (C.w (wd 28 rfl))) (by decide) (t := .int) (t' := .long) (by decide) (by decide))))
        show Go p e below s n0 _ _ _ (T165.setTop (mkF m 80 #[.val (.ref a), .val (.long f), .second, .val (.long n), .second] []))
        refine Go.st (fun _ => XS.aloadN X165.here C.hx rfl (hb C.hby d3_80) rfl rfl) ?_
        show Go p e below s n0 _ _ _ (T165.setTop (mkF m 81 #[.val (.ref a), .val (.long f), .second, .val (.long n), .second] [(.ref a)]))
        refine Go.st (fun _ => XS.dup X165.here C.hx rfl (hb C.hby d3_81) rfl rfl) ?_
        show Go p e below s n0 _ _ _ (T165.setTop (mkF m 82 #[.val (.ref a), .val (.long f), .second, .val (.long n), .second] [(.ref a), (.ref a)]))
        refine Go.getF C X165 (wd 30 rfl) F_spaced_169 d3_82 (fun T172 X172 => ?_)
        show Go p e below s n0 _ _ _ (T172.setTop (mkF m 85 #[.val (.ref a), .val (.long f), .second, .val (.long n), .second] [(.long v4), (.ref a)]))
        refine Go.st (fun _ => XS.lloadN X172.here C.hx rfl (hb C.hby d3_85) rfl) ?_
        show Go p e below s n0 _ _ _ (T172.setTop (mkF m 86 #[.val (.ref a), .val (.long f), .second, .val (.long n), .second] [(.long f), (.long v4), (.ref a)]))
        refine Go.ldcJ C X172 (wd 32 rfl) d3_86 ?_
        show Go p e below s n0 _ _ _ (T172.setTop (mkF m 89 #[.val (.ref a), .val (.long f), .second, .val (.long n), .second] [(.long (8 : Int64)), (.long f), (.long v4), (.ref a)]))
        refine Go.st (fun _ => XS.land X172.here C.hx rfl (hb C.hby d3_89) rfl) ?_
        show Go p e below s n0 _ _ _ (T172.setTop (mkF m 90 #[.val (.ref a), .val (.long f), .second, .val (.long n), .second] [(.long (f &&& (8 : Int64))), (.long v4), (.ref a)]))
        refine Go.st (fun _ => XS.lconst X172.here C.hx rfl (hb C.hby d3_90)) ?_
        show Go p e below s n0 _ _ _ (T172.setTop (mkF m 91 #[.val (.ref a), .val (.long f), .second, .val (.long n), .second] [(.long (0 : Int64)), (.long (f &&& (8 : Int64))), (.long v4), (.ref a)]))
        refine Go.st (fun _ => XS.lcmp X172.here C.hx rfl (hb C.hby d3_91) rfl) ?_
        show Go p e below s n0 _ _ _ (T172.setTop (mkF m 92 #[.val (.ref a), .val (.long f), .second, .val (.long n), .second] [(.int (lcmpW (f &&& (8 : Int64)) (0 : Int64))), (.long v4), (.ref a)]))
        have J174 : ∀ (TJ174 : State) (u3 : Int64), St p l e ({ frames := 0, cells := 0, slots := 0, locals := 0 } : Room) s m #[(.ref a), (.long f), (.long n)] below meth c n0 TJ174 h165 0 0 → u3 = sel (f &&& (8 : Int64)) n → Go p e below s n0 (({ frames := 0, cells := 0, slots := 0, locals := 0 } : Room)).cells (({ frames := 0, cells := 0, slots := 0, locals := 0 } : Room)).slots (fun v h => v = none ∧ Exa Z h a "com/example/vitruvius/vitruvius/profile/ValueSummary" ∧ Fld Z h a "com/example/vitruvius/vitruvius/profile/ValueSummary" "values" "J" (.long (v0 + n)) ∧ Fld Z h a "com/example/vitruvius/vitruvius/profile/ValueSummary" "uuids" "J" (.long (v1 + sel (f &&& (1 : Int64)) n)) ∧ Fld Z h a "com/example/vitruvius/vitruvius/profile/ValueSummary" "addresses" "J" (.long (v2 + sel (f &&& (2 : Int64)) n)) ∧ Fld Z h a "com/example/vitruvius/vitruvius/profile/ValueSummary" "uris" "J" (.long (v3 + sel (f &&& (4 : Int64)) n)) ∧ Fld Z h a "com/example/vitruvius/vitruvius/profile/ValueSummary" "spaced" "J" (.long (v4 + sel (f &&& (8 : Int64)) n)) ∧ Fld Z h a "com/example/vitruvius/vitruvius/profile/ValueSummary" "characters" "J" (.long (v5 + (n * (lus f (4 : Int32))))) ∧ Fld Z h a "com/example/vitruvius/vitruvius/profile/ValueSummary" "maxBytes" "I" (.int (0 : Int32))) (TJ174.setTop (mkF m 100 #[.val (.ref a), .val (.long f), .second, .val (.long n), .second] [(.long u3), (.long v4), (.ref a)])) := by
          intro TJ174 u3 XJ174 hj_u3
          show Go p e below s n0 _ _ _ (TJ174.setTop (mkF m 100 #[.val (.ref a), .val (.long f), .second, .val (.long n), .second] [(.long u3), (.long v4), (.ref a)]))
          refine Go.st (fun _ => XS.ladd XJ174.here C.hx rfl (hb C.hby d3_100) rfl) ?_
          show Go p e below s n0 _ _ _ (TJ174.setTop (mkF m 101 #[.val (.ref a), .val (.long f), .second, .val (.long n), .second] [(.long (v4 + u3)), (.ref a)]))
          refine Go.putF C XJ174 (wd 30 rfl) F_spaced_169 (Exa.wr W165 E_a_155) (Or.inl (wd 31 rfl)) (wd 1 rfl) (ty := .long) (by decide) rfl rfl ga d3_101 (fun T175 h175 X175 W175 F175 => ?_)
          have F_values_176 : Fld Z h175 a "com/example/vitruvius/vitruvius/profile/ValueSummary" "values" "J" (.long (v0 + n)) := (Fld.other W175 F_values_166 (Or.inr (slot_ne (Or.inl (C.w (wd 21 rfl))) (Or.inl (C.w (wd 31 rfl))) (by decide) (t := .long) (t' := .long) (by decide) (by decide))))
          have F_uuids_177 : Fld Z h175 a "com/example/vitruvius/vitruvius/profile/ValueSummary" "uuids" "J" (.long (v1 + u0)) := (Fld.other W175 F_uuids_167 (Or.inr (slot_ne (Or.inl (C.w (wd 23 rfl))) (Or.inl (C.w (wd 31 rfl))) (by decide) (t := .long) (t' := .long) (by decide) (by decide))))
          have F_addresses_178 : Fld Z h175 a "com/example/vitruvius/vitruvius/profile/ValueSummary" "addresses" "J" (.long (v2 + u1)) := (Fld.other W175 F_addresses_168 (Or.inr (slot_ne (Or.inl (C.w (wd 25 rfl))) (Or.inl (C.w (wd 31 rfl))) (by decide) (t := .long) (t' := .long) (by decide) (by decide))))
          have F_uris_179 : Fld Z h175 a "com/example/vitruvius/vitruvius/profile/ValueSummary" "uris" "J" (.long (v3 + u2)) := (Fld.other W175 F165 (Or.inr (slot_ne (Or.inl (C.w (wd 28 rfl))) (Or.inl (C.w (wd 31 rfl))) (by decide) (t := .long) (t' := .long) (by decide) (by decide))))
          have F_characters_180 : Fld Z h175 a "com/example/vitruvius/vitruvius/profile/ValueSummary" "characters" "J" (.long v5) := (Fld.other W175 F_characters_170 (Or.inr (slot_ne (Or.inl (C.w (wd 34 rfl))) (Or.inl (C.w (wd 31 rfl))) (by decide) (t := .long) (t' := .long) (by decide) (by decide))))
          have F_maxBytes_181 : Fld Z h175 a "com/example/vitruvius/vitruvius/profile/ValueSummary" "maxBytes" "I" (.int (0 : Int32)) := (Fld.other W175 F_maxBytes_171 (Or.inr (slot_ne (Or.inl (C.w (wd 75 rfl))) (Or.inl (C.w (wd 31 rfl))) (by decide) (t := .int) (t' := .long) (by decide) (by decide))))
          show Go p e below s n0 _ _ _ (T175.setTop (mkF m 104 #[.val (.ref a), .val (.long f), .second, .val (.long n), .second] []))
          refine Go.st (fun _ => XS.aloadN X175.here C.hx rfl (hb C.hby d3_104) rfl rfl) ?_
          show Go p e below s n0 _ _ _ (T175.setTop (mkF m 105 #[.val (.ref a), .val (.long f), .second, .val (.long n), .second] [(.ref a)]))
          refine Go.st (fun _ => XS.dup X175.here C.hx rfl (hb C.hby d3_105) rfl rfl) ?_
          show Go p e below s n0 _ _ _ (T175.setTop (mkF m 106 #[.val (.ref a), .val (.long f), .second, .val (.long n), .second] [(.ref a), (.ref a)]))
          refine Go.getF C X175 (wd 33 rfl) F_characters_180 d3_106 (fun T182 X182 => ?_)
          show Go p e below s n0 _ _ _ (T182.setTop (mkF m 109 #[.val (.ref a), .val (.long f), .second, .val (.long n), .second] [(.long v5), (.ref a)]))
          refine Go.st (fun _ => XS.lloadN X182.here C.hx rfl (hb C.hby d3_109) rfl) ?_
          show Go p e below s n0 _ _ _ (T182.setTop (mkF m 110 #[.val (.ref a), .val (.long f), .second, .val (.long n), .second] [(.long n), (.long v5), (.ref a)]))
          refine Go.st (fun _ => XS.lloadN X182.here C.hx rfl (hb C.hby d3_110) rfl) ?_
          show Go p e below s n0 _ _ _ (T182.setTop (mkF m 111 #[.val (.ref a), .val (.long f), .second, .val (.long n), .second] [(.long f), (.long n), (.long v5), (.ref a)]))
          refine Go.st (fun _ => XS.iconst X182.here C.hx rfl (hb C.hby d3_111)) ?_
          show Go p e below s n0 _ _ _ (T182.setTop (mkF m 112 #[.val (.ref a), .val (.long f), .second, .val (.long n), .second] [(.int (4 : Int32)), (.long f), (.long n), (.long v5), (.ref a)]))
          refine Go.st (fun _ => XS.lushr X182.here C.hx rfl (hb C.hby d3_112) rfl) ?_
          show Go p e below s n0 _ _ _ (T182.setTop (mkF m 113 #[.val (.ref a), .val (.long f), .second, .val (.long n), .second] [(.long (lus f (4 : Int32))), (.long n), (.long v5), (.ref a)]))
          refine Go.st (fun _ => XS.lmul X182.here C.hx rfl (hb C.hby d3_113) rfl) ?_
          show Go p e below s n0 _ _ _ (T182.setTop (mkF m 114 #[.val (.ref a), .val (.long f), .second, .val (.long n), .second] [(.long (n * (lus f (4 : Int32)))), (.long v5), (.ref a)]))
          refine Go.st (fun _ => XS.ladd X182.here C.hx rfl (hb C.hby d3_114) rfl) ?_
          show Go p e below s n0 _ _ _ (T182.setTop (mkF m 115 #[.val (.ref a), .val (.long f), .second, .val (.long n), .second] [(.long (v5 + (n * (lus f (4 : Int32))))), (.ref a)]))
          refine Go.putF C X182 (wd 33 rfl) F_characters_180 (Exa.wr W175 (Exa.wr W165 E_a_155)) (Or.inl (wd 34 rfl)) (wd 1 rfl) (ty := .long) (by decide) rfl rfl ga d3_115 (fun T183 h183 X183 W183 F183 => ?_)
          have E_a_184 : Exa Z h183 a "com/example/vitruvius/vitruvius/profile/ValueSummary" := (Exa.wr W183 (Exa.wr W175 (Exa.wr W165 E_a_155)))
          have F_values_185 : Fld Z h183 a "com/example/vitruvius/vitruvius/profile/ValueSummary" "values" "J" (.long (v0 + n)) := (Fld.other W183 F_values_176 (Or.inr (slot_ne (Or.inl (C.w (wd 21 rfl))) (Or.inl (C.w (wd 34 rfl))) (by decide) (t := .long) (t' := .long) (by decide) (by decide))))
          have F_uuids_186 : Fld Z h183 a "com/example/vitruvius/vitruvius/profile/ValueSummary" "uuids" "J" (.long (v1 + u0)) := (Fld.other W183 F_uuids_177 (Or.inr (slot_ne (Or.inl (C.w (wd 23 rfl))) (Or.inl (C.w (wd 34 rfl))) (by decide) (t := .long) (t' := .long) (by decide) (by decide))))
          have F_addresses_187 : Fld Z h183 a "com/example/vitruvius/vitruvius/profile/ValueSummary" "addresses" "J" (.long (v2 + u1)) := (Fld.other W183 F_addresses_178 (Or.inr (slot_ne (Or.inl (C.w (wd 25 rfl))) (Or.inl (C.w (wd 34 rfl))) (by decide) (t := .long) (t' := .long) (by decide) (by decide))))
          have F_uris_188 : Fld Z h183 a "com/example/vitruvius/vitruvius/profile/ValueSummary" "uris" "J" (.long (v3 + u2)) := (Fld.other W183 F_uris_179 (Or.inr (slot_ne (Or.inl (C.w (wd 28 rfl))) (Or.inl (C.w (wd 34 rfl))) (by decide) (t := .long) (t' := .long) (by decide) (by decide))))
          have F_spaced_189 : Fld Z h183 a "com/example/vitruvius/vitruvius/profile/ValueSummary" "spaced" "J" (.long (v4 + u3)) := (Fld.other W183 F175 (Or.inr (slot_ne (Or.inl (C.w (wd 31 rfl))) (Or.inl (C.w (wd 34 rfl))) (by decide) (t := .long) (t' := .long) (by decide) (by decide))))
          have F_maxBytes_190 : Fld Z h183 a "com/example/vitruvius/vitruvius/profile/ValueSummary" "maxBytes" "I" (.int (0 : Int32)) := (Fld.other W183 F_maxBytes_181 (Or.inr (slot_ne (Or.inl (C.w (wd 75 rfl))) (Or.inl (C.w (wd 34 rfl))) (by decide) (t := .int) (t' := .long) (by decide) (by decide))))
          show Go p e below s n0 _ _ _ (T183.setTop (mkF m 118 #[.val (.ref a), .val (.long f), .second, .val (.long n), .second] []))
          exact Go.retV C X183 d3_118 (by rw [← hj_u0, ← hj_u1, ← hj_u2, ← hj_u3]; exact ⟨rfl, E_a_184, F_values_185, F_uuids_186, F_addresses_187, F_uris_188, F_spaced_189, F183, F_maxBytes_190⟩) (by decide) (by decide)
        refine Go.lif_eq C X172 (pc' := 99) d3_92 (by decide) (by decide) (fun hc92_173 => ?_) (fun hc92_173 => ?_)
        · show Go p e below s n0 _ _ _ (T172.setTop (mkF m 99 #[.val (.ref a), .val (.long f), .second, .val (.long n), .second] [(.long v4), (.ref a)]))
          refine Go.st (fun _ => XS.lconst X172.here C.hx rfl (hb C.hby d3_99)) ?_
          show Go p e below s n0 _ _ _ (T172.setTop (mkF m 100 #[.val (.ref a), .val (.long f), .second, .val (.long n), .second] [(.long (0 : Int64)), (.long v4), (.ref a)]))
          exact J174 T172 (0 : Int64) X172 (by simp [sel, hc92_173])
        · show Go p e below s n0 _ _ _ (T172.setTop (mkF m 95 #[.val (.ref a), .val (.long f), .second, .val (.long n), .second] [(.long v4), (.ref a)]))
          refine Go.st (fun _ => XS.lloadN X172.here C.hx rfl (hb C.hby d3_95) rfl) ?_
          show Go p e below s n0 _ _ _ (T172.setTop (mkF m 96 #[.val (.ref a), .val (.long f), .second, .val (.long n), .second] [(.long n), (.long v4), (.ref a)]))
          refine Go.st (fun _ => XS.goto X172.here C.hx rfl (pc0 := 96) (pc' := 100) rfl (hb C.hby d3_96) (by decide) (by decide)) ?_
          show Go p e below s n0 _ _ _ (T172.setTop (mkF m 100 #[.val (.ref a), .val (.long f), .second, .val (.long n), .second] [(.long n), (.long v4), (.ref a)]))
          exact J174 T172 n X172 (by simp [sel, hc92_173])
      refine Go.lif_eq C X162 (pc' := 75) d3_68 (by decide) (by decide) (fun hc68_163 => ?_) (fun hc68_163 => ?_)
      · show Go p e below s n0 _ _ _ (T162.setTop (mkF m 75 #[.val (.ref a), .val (.long f), .second, .val (.long n), .second] [(.long v3), (.ref a)]))
        refine Go.st (fun _ => XS.lconst X162.here C.hx rfl (hb C.hby d3_75)) ?_
        show Go p e below s n0 _ _ _ (T162.setTop (mkF m 76 #[.val (.ref a), .val (.long f), .second, .val (.long n), .second] [(.long (0 : Int64)), (.long v3), (.ref a)]))
        exact J164 T162 (0 : Int64) X162 (by simp [sel, hc68_163])
      · show Go p e below s n0 _ _ _ (T162.setTop (mkF m 71 #[.val (.ref a), .val (.long f), .second, .val (.long n), .second] [(.long v3), (.ref a)]))
        refine Go.st (fun _ => XS.lloadN X162.here C.hx rfl (hb C.hby d3_71) rfl) ?_
        show Go p e below s n0 _ _ _ (T162.setTop (mkF m 72 #[.val (.ref a), .val (.long f), .second, .val (.long n), .second] [(.long n), (.long v3), (.ref a)]))
        refine Go.st (fun _ => XS.goto X162.here C.hx rfl (pc0 := 72) (pc' := 76) rfl (hb C.hby d3_72) (by decide) (by decide)) ?_
        show Go p e below s n0 _ _ _ (T162.setTop (mkF m 76 #[.val (.ref a), .val (.long f), .second, .val (.long n), .second] [(.long n), (.long v3), (.ref a)]))
        exact J164 T162 n X162 (by simp [sel, hc68_163])
    refine Go.lif_eq C X151 (pc' := 51) d3_44 (by decide) (by decide) (fun hc44_152 => ?_) (fun hc44_152 => ?_)
    · show Go p e below s n0 _ _ _ (T151.setTop (mkF m 51 #[.val (.ref a), .val (.long f), .second, .val (.long n), .second] [(.long v2), (.ref a)]))
      refine Go.st (fun _ => XS.lconst X151.here C.hx rfl (hb C.hby d3_51)) ?_
      show Go p e below s n0 _ _ _ (T151.setTop (mkF m 52 #[.val (.ref a), .val (.long f), .second, .val (.long n), .second] [(.long (0 : Int64)), (.long v2), (.ref a)]))
      exact J153 T151 (0 : Int64) X151 (by simp [sel, hc44_152])
    · show Go p e below s n0 _ _ _ (T151.setTop (mkF m 47 #[.val (.ref a), .val (.long f), .second, .val (.long n), .second] [(.long v2), (.ref a)]))
      refine Go.st (fun _ => XS.lloadN X151.here C.hx rfl (hb C.hby d3_47) rfl) ?_
      show Go p e below s n0 _ _ _ (T151.setTop (mkF m 48 #[.val (.ref a), .val (.long f), .second, .val (.long n), .second] [(.long n), (.long v2), (.ref a)]))
      refine Go.st (fun _ => XS.goto X151.here C.hx rfl (pc0 := 48) (pc' := 52) rfl (hb C.hby d3_48) (by decide) (by decide)) ?_
      show Go p e below s n0 _ _ _ (T151.setTop (mkF m 52 #[.val (.ref a), .val (.long f), .second, .val (.long n), .second] [(.long n), (.long v2), (.ref a)]))
      exact J153 T151 n X151 (by simp [sel, hc44_152])
  refine Go.lif_eq C X141 (pc' := 27) d3_20 (by decide) (by decide) (fun hc20_142 => ?_) (fun hc20_142 => ?_)
  · show Go p e below s n0 _ _ _ (T141.setTop (mkF m 27 #[.val (.ref a), .val (.long f), .second, .val (.long n), .second] [(.long v1), (.ref a)]))
    refine Go.st (fun _ => XS.lconst X141.here C.hx rfl (hb C.hby d3_27)) ?_
    show Go p e below s n0 _ _ _ (T141.setTop (mkF m 28 #[.val (.ref a), .val (.long f), .second, .val (.long n), .second] [(.long (0 : Int64)), (.long v1), (.ref a)]))
    exact J143 T141 (0 : Int64) X141 (by simp [sel, hc20_142])
  · show Go p e below s n0 _ _ _ (T141.setTop (mkF m 23 #[.val (.ref a), .val (.long f), .second, .val (.long n), .second] [(.long v1), (.ref a)]))
    refine Go.st (fun _ => XS.lloadN X141.here C.hx rfl (hb C.hby d3_23) rfl) ?_
    show Go p e below s n0 _ _ _ (T141.setTop (mkF m 24 #[.val (.ref a), .val (.long f), .second, .val (.long n), .second] [(.long n), (.long v1), (.ref a)]))
    refine Go.st (fun _ => XS.goto X141.here C.hx rfl (pc0 := 24) (pc' := 28) rfl (hb C.hby d3_24) (by decide) (by decide)) ?_
    show Go p e below s n0 _ _ _ (T141.setTop (mkF m 28 #[.val (.ref a), .val (.long f), .second, .val (.long n), .second] [(.long n), (.long v1), (.ref a)]))
    exact J143 T141 n X141 (by simp [sel, hc20_142])
theorem d4_0 : decode method_2_code 0 = .ok (.lload_n 0, 1) := by decide +kernel
theorem d4_1 : decode method_2_code 1 = .ok (.iload_n 2, 1) := by decide +kernel
theorem d4_2 : decode method_2_code 2 = .ok (.lushr, 1) := by decide +kernel
theorem d4_3 : decode method_2_code 3 = .ok (.lconst 1, 1) := by decide +kernel
theorem d4_4 : decode method_2_code 4 = .ok (.land, 1) := by decide +kernel
theorem d4_5 : decode method_2_code 5 = .ok (.lreturn, 1) := by decide +kernel
theorem pf_4 : plainFor (⟨"com/example/vitruvius/vitruvius/profile/ValueSummaryAddPinLaw", "bit", "(JI)J"⟩ : MethodName) = true := plainFor_of_name (by first | (simp [plainName, overriddenIn]; done) | decide +kernel)
theorem pd_4 : parseMethodDescriptor "(JI)J" = some ⟨[.long, .int], some .long⟩ := by decide +kernel
set_option maxRecDepth 65536 in
set_option maxHeartbeats 40000000 in
theorem con_bit (l : Launch) (Z : State) (a0 : Array Value) (hw : ∀ d ∈ tables_1, d.before a0 Z = true) (n0 : Nat) (h0 : Heap) (Z0 : n0 ≤ h0.size) (f : Int64) (k : Int32)  :
    Con l Z (⟨"com/example/vitruvius/vitruvius/profile/ValueSummaryAddPinLaw", "bit", "(JI)J"⟩ : MethodName) method_2_code 3 (some .long) [] ({ frames := 0, cells := 0, slots := 0, locals := 0 } : Room) n0 #[(.long f), (.int k)] h0 (fun v h => v = some (.long (lus f k &&& (1 : Int64))) ∧ h = h0) := by
  refine Con.mk pf_4 hw Z0 ?_
  intro p e s m below meth c T0 C X0
  have ef : entryFrame m #[(.long f), (.int k)] 3 = mkF m 0 #[.val (.long f), .second, .val (.int k)] [] := by first | (simp [entryFrame, mkF, argsToLocals, Value.category]; done) | rfl
  rw [ef]
  show Go p e below s n0 _ _ _ (T0.setTop (mkF m 0 #[.val (.long f), .second, .val (.int k)] []))
  refine Go.st (fun _ => XS.lloadN X0.here C.hx rfl (hb C.hby d4_0) rfl) ?_
  show Go p e below s n0 _ _ _ (T0.setTop (mkF m 1 #[.val (.long f), .second, .val (.int k)] [(.long f)]))
  refine Go.st (fun _ => XS.iloadN X0.here C.hx rfl (hb C.hby d4_1) rfl) ?_
  show Go p e below s n0 _ _ _ (T0.setTop (mkF m 2 #[.val (.long f), .second, .val (.int k)] [(.int k), (.long f)]))
  refine Go.st (fun _ => XS.lushr X0.here C.hx rfl (hb C.hby d4_2) rfl) ?_
  show Go p e below s n0 _ _ _ (T0.setTop (mkF m 3 #[.val (.long f), .second, .val (.int k)] [(.long (lus f k))]))
  refine Go.st (fun _ => XS.lconst X0.here C.hx rfl (hb C.hby d4_3)) ?_
  show Go p e below s n0 _ _ _ (T0.setTop (mkF m 4 #[.val (.long f), .second, .val (.int k)] [(.long (1 : Int64)), (.long (lus f k))]))
  refine Go.st (fun _ => XS.land X0.here C.hx rfl (hb C.hby d4_4) rfl) ?_
  show Go p e below s n0 _ _ _ (T0.setTop (mkF m 5 #[.val (.long f), .second, .val (.int k)] [(.long ((lus f k) &&& (1 : Int64)))]))
  exact Go.retJ C X0 d4_5 ⟨rfl, rfl⟩ (by decide) (by decide)
theorem d5_0 : decode prog_68_method_8_code 0 = .ok (.aload_n 0, 1) := by decide +kernel
theorem d5_1 : decode prog_68_method_8_code 1 = .ok (.getfield 72, 3) := by decide +kernel
theorem d5_4 : decode prog_68_method_8_code 4 = .ok (.lreturn, 1) := by decide +kernel
theorem pf_5 : plainFor (⟨"com/example/vitruvius/vitruvius/profile/ValueSummary", "values", "()J"⟩ : MethodName) = true := plainFor_of_name (by first | (simp [plainName, overriddenIn]; done) | decide +kernel)
theorem pd_5 : parseMethodDescriptor "()J" = some ⟨[], some .long⟩ := by decide +kernel
set_option maxRecDepth 65536 in
set_option maxHeartbeats 40000000 in
theorem con_values (l : Launch) (Z : State) (a0 : Array Value) (hw : ∀ d ∈ tables_1, d.before a0 Z = true) (n0 : Nat) (h0 : Heap) (Z0 : n0 ≤ h0.size) (a : Addr) (x : Int64) (F : Fld Z h0 a "com/example/vitruvius/vitruvius/profile/ValueSummary" "values" "J" (.long x)) :
    Con l Z (⟨"com/example/vitruvius/vitruvius/profile/ValueSummary", "values", "()J"⟩ : MethodName) prog_68_method_8_code 1 (some .long) [] ({ frames := 0, cells := 0, slots := 0, locals := 0 } : Room) n0 #[(.ref a)] h0 (fun v h => v = some (.long x) ∧ h = h0) := by
  refine Con.mk pf_5 hw Z0 ?_
  intro p e s m below meth c T0 C X0
  have ef : entryFrame m #[(.ref a)] 1 = mkF m 0 #[.val (.ref a)] [] := by first | (simp [entryFrame, mkF, argsToLocals, Value.category]; done) | rfl
  rw [ef]
  show Go p e below s n0 _ _ _ (T0.setTop (mkF m 0 #[.val (.ref a)] []))
  refine Go.st (fun _ => XS.aloadN X0.here C.hx rfl (hb C.hby d5_0) rfl rfl) ?_
  show Go p e below s n0 _ _ _ (T0.setTop (mkF m 1 #[.val (.ref a)] [(.ref a)]))
  refine Go.getF C X0 (wd 20 rfl) F d5_1 (fun T191 X191 => ?_)
  show Go p e below s n0 _ _ _ (T191.setTop (mkF m 4 #[.val (.ref a)] [(.long x)]))
  exact Go.retJ C X191 d5_4 ⟨rfl, rfl⟩ (by decide) (by decide)
theorem d6_0 : decode prog_68_method_9_code 0 = .ok (.aload_n 0, 1) := by decide +kernel
theorem d6_1 : decode prog_68_method_9_code 1 = .ok (.getfield 76, 3) := by decide +kernel
theorem d6_4 : decode prog_68_method_9_code 4 = .ok (.lreturn, 1) := by decide +kernel
theorem pf_6 : plainFor (⟨"com/example/vitruvius/vitruvius/profile/ValueSummary", "uuids", "()J"⟩ : MethodName) = true := plainFor_of_name (by first | (simp [plainName, overriddenIn]; done) | decide +kernel)
theorem pd_6 : parseMethodDescriptor "()J" = some ⟨[], some .long⟩ := by decide +kernel
set_option maxRecDepth 65536 in
set_option maxHeartbeats 40000000 in
theorem con_uuids (l : Launch) (Z : State) (a0 : Array Value) (hw : ∀ d ∈ tables_1, d.before a0 Z = true) (n0 : Nat) (h0 : Heap) (Z0 : n0 ≤ h0.size) (a : Addr) (x : Int64) (F : Fld Z h0 a "com/example/vitruvius/vitruvius/profile/ValueSummary" "uuids" "J" (.long x)) :
    Con l Z (⟨"com/example/vitruvius/vitruvius/profile/ValueSummary", "uuids", "()J"⟩ : MethodName) prog_68_method_9_code 1 (some .long) [] ({ frames := 0, cells := 0, slots := 0, locals := 0 } : Room) n0 #[(.ref a)] h0 (fun v h => v = some (.long x) ∧ h = h0) := by
  refine Con.mk pf_6 hw Z0 ?_
  intro p e s m below meth c T0 C X0
  have ef : entryFrame m #[(.ref a)] 1 = mkF m 0 #[.val (.ref a)] [] := by first | (simp [entryFrame, mkF, argsToLocals, Value.category]; done) | rfl
  rw [ef]
  show Go p e below s n0 _ _ _ (T0.setTop (mkF m 0 #[.val (.ref a)] []))
  refine Go.st (fun _ => XS.aloadN X0.here C.hx rfl (hb C.hby d6_0) rfl rfl) ?_
  show Go p e below s n0 _ _ _ (T0.setTop (mkF m 1 #[.val (.ref a)] [(.ref a)]))
  refine Go.getF C X0 (wd 22 rfl) F d6_1 (fun T192 X192 => ?_)
  show Go p e below s n0 _ _ _ (T192.setTop (mkF m 4 #[.val (.ref a)] [(.long x)]))
  exact Go.retJ C X192 d6_4 ⟨rfl, rfl⟩ (by decide) (by decide)
theorem d7_0 : decode prog_68_method_10_code 0 = .ok (.aload_n 0, 1) := by decide +kernel
theorem d7_1 : decode prog_68_method_10_code 1 = .ok (.getfield 79, 3) := by decide +kernel
theorem d7_4 : decode prog_68_method_10_code 4 = .ok (.lreturn, 1) := by decide +kernel
theorem pf_7 : plainFor (⟨"com/example/vitruvius/vitruvius/profile/ValueSummary", "addresses", "()J"⟩ : MethodName) = true := plainFor_of_name (by first | (simp [plainName, overriddenIn]; done) | decide +kernel)
theorem pd_7 : parseMethodDescriptor "()J" = some ⟨[], some .long⟩ := by decide +kernel
set_option maxRecDepth 65536 in
set_option maxHeartbeats 40000000 in
theorem con_addresses (l : Launch) (Z : State) (a0 : Array Value) (hw : ∀ d ∈ tables_1, d.before a0 Z = true) (n0 : Nat) (h0 : Heap) (Z0 : n0 ≤ h0.size) (a : Addr) (x : Int64) (F : Fld Z h0 a "com/example/vitruvius/vitruvius/profile/ValueSummary" "addresses" "J" (.long x)) :
    Con l Z (⟨"com/example/vitruvius/vitruvius/profile/ValueSummary", "addresses", "()J"⟩ : MethodName) prog_68_method_10_code 1 (some .long) [] ({ frames := 0, cells := 0, slots := 0, locals := 0 } : Room) n0 #[(.ref a)] h0 (fun v h => v = some (.long x) ∧ h = h0) := by
  refine Con.mk pf_7 hw Z0 ?_
  intro p e s m below meth c T0 C X0
  have ef : entryFrame m #[(.ref a)] 1 = mkF m 0 #[.val (.ref a)] [] := by first | (simp [entryFrame, mkF, argsToLocals, Value.category]; done) | rfl
  rw [ef]
  show Go p e below s n0 _ _ _ (T0.setTop (mkF m 0 #[.val (.ref a)] []))
  refine Go.st (fun _ => XS.aloadN X0.here C.hx rfl (hb C.hby d7_0) rfl rfl) ?_
  show Go p e below s n0 _ _ _ (T0.setTop (mkF m 1 #[.val (.ref a)] [(.ref a)]))
  refine Go.getF C X0 (wd 24 rfl) F d7_1 (fun T193 X193 => ?_)
  show Go p e below s n0 _ _ _ (T193.setTop (mkF m 4 #[.val (.ref a)] [(.long x)]))
  exact Go.retJ C X193 d7_4 ⟨rfl, rfl⟩ (by decide) (by decide)
theorem d8_0 : decode prog_68_method_11_code 0 = .ok (.aload_n 0, 1) := by decide +kernel
theorem d8_1 : decode prog_68_method_11_code 1 = .ok (.getfield 82, 3) := by decide +kernel
theorem d8_4 : decode prog_68_method_11_code 4 = .ok (.lreturn, 1) := by decide +kernel
theorem pf_8 : plainFor (⟨"com/example/vitruvius/vitruvius/profile/ValueSummary", "uris", "()J"⟩ : MethodName) = true := plainFor_of_name (by first | (simp [plainName, overriddenIn]; done) | decide +kernel)
theorem pd_8 : parseMethodDescriptor "()J" = some ⟨[], some .long⟩ := by decide +kernel
set_option maxRecDepth 65536 in
set_option maxHeartbeats 40000000 in
theorem con_uris (l : Launch) (Z : State) (a0 : Array Value) (hw : ∀ d ∈ tables_1, d.before a0 Z = true) (n0 : Nat) (h0 : Heap) (Z0 : n0 ≤ h0.size) (a : Addr) (x : Int64) (F : Fld Z h0 a "com/example/vitruvius/vitruvius/profile/ValueSummary" "uris" "J" (.long x)) :
    Con l Z (⟨"com/example/vitruvius/vitruvius/profile/ValueSummary", "uris", "()J"⟩ : MethodName) prog_68_method_11_code 1 (some .long) [] ({ frames := 0, cells := 0, slots := 0, locals := 0 } : Room) n0 #[(.ref a)] h0 (fun v h => v = some (.long x) ∧ h = h0) := by
  refine Con.mk pf_8 hw Z0 ?_
  intro p e s m below meth c T0 C X0
  have ef : entryFrame m #[(.ref a)] 1 = mkF m 0 #[.val (.ref a)] [] := by first | (simp [entryFrame, mkF, argsToLocals, Value.category]; done) | rfl
  rw [ef]
  show Go p e below s n0 _ _ _ (T0.setTop (mkF m 0 #[.val (.ref a)] []))
  refine Go.st (fun _ => XS.aloadN X0.here C.hx rfl (hb C.hby d8_0) rfl rfl) ?_
  show Go p e below s n0 _ _ _ (T0.setTop (mkF m 1 #[.val (.ref a)] [(.ref a)]))
  refine Go.getF C X0 (wd 27 rfl) F d8_1 (fun T194 X194 => ?_)
  show Go p e below s n0 _ _ _ (T194.setTop (mkF m 4 #[.val (.ref a)] [(.long x)]))
  exact Go.retJ C X194 d8_4 ⟨rfl, rfl⟩ (by decide) (by decide)
theorem d9_0 : decode prog_68_method_12_code 0 = .ok (.aload_n 0, 1) := by decide +kernel
theorem d9_1 : decode prog_68_method_12_code 1 = .ok (.getfield 85, 3) := by decide +kernel
theorem d9_4 : decode prog_68_method_12_code 4 = .ok (.lreturn, 1) := by decide +kernel
theorem pf_9 : plainFor (⟨"com/example/vitruvius/vitruvius/profile/ValueSummary", "spaced", "()J"⟩ : MethodName) = true := plainFor_of_name (by first | (simp [plainName, overriddenIn]; done) | decide +kernel)
theorem pd_9 : parseMethodDescriptor "()J" = some ⟨[], some .long⟩ := by decide +kernel
set_option maxRecDepth 65536 in
set_option maxHeartbeats 40000000 in
theorem con_spaced (l : Launch) (Z : State) (a0 : Array Value) (hw : ∀ d ∈ tables_1, d.before a0 Z = true) (n0 : Nat) (h0 : Heap) (Z0 : n0 ≤ h0.size) (a : Addr) (x : Int64) (F : Fld Z h0 a "com/example/vitruvius/vitruvius/profile/ValueSummary" "spaced" "J" (.long x)) :
    Con l Z (⟨"com/example/vitruvius/vitruvius/profile/ValueSummary", "spaced", "()J"⟩ : MethodName) prog_68_method_12_code 1 (some .long) [] ({ frames := 0, cells := 0, slots := 0, locals := 0 } : Room) n0 #[(.ref a)] h0 (fun v h => v = some (.long x) ∧ h = h0) := by
  refine Con.mk pf_9 hw Z0 ?_
  intro p e s m below meth c T0 C X0
  have ef : entryFrame m #[(.ref a)] 1 = mkF m 0 #[.val (.ref a)] [] := by first | (simp [entryFrame, mkF, argsToLocals, Value.category]; done) | rfl
  rw [ef]
  show Go p e below s n0 _ _ _ (T0.setTop (mkF m 0 #[.val (.ref a)] []))
  refine Go.st (fun _ => XS.aloadN X0.here C.hx rfl (hb C.hby d9_0) rfl rfl) ?_
  show Go p e below s n0 _ _ _ (T0.setTop (mkF m 1 #[.val (.ref a)] [(.ref a)]))
  refine Go.getF C X0 (wd 30 rfl) F d9_1 (fun T195 X195 => ?_)
  show Go p e below s n0 _ _ _ (T195.setTop (mkF m 4 #[.val (.ref a)] [(.long x)]))
  exact Go.retJ C X195 d9_4 ⟨rfl, rfl⟩ (by decide) (by decide)
theorem d10_0 : decode prog_68_method_13_code 0 = .ok (.aload_n 0, 1) := by decide +kernel
theorem d10_1 : decode prog_68_method_13_code 1 = .ok (.getfield 88, 3) := by decide +kernel
theorem d10_4 : decode prog_68_method_13_code 4 = .ok (.lreturn, 1) := by decide +kernel
theorem pf_10 : plainFor (⟨"com/example/vitruvius/vitruvius/profile/ValueSummary", "characters", "()J"⟩ : MethodName) = true := plainFor_of_name (by first | (simp [plainName, overriddenIn]; done) | decide +kernel)
theorem pd_10 : parseMethodDescriptor "()J" = some ⟨[], some .long⟩ := by decide +kernel
set_option maxRecDepth 65536 in
set_option maxHeartbeats 40000000 in
theorem con_characters (l : Launch) (Z : State) (a0 : Array Value) (hw : ∀ d ∈ tables_1, d.before a0 Z = true) (n0 : Nat) (h0 : Heap) (Z0 : n0 ≤ h0.size) (a : Addr) (x : Int64) (F : Fld Z h0 a "com/example/vitruvius/vitruvius/profile/ValueSummary" "characters" "J" (.long x)) :
    Con l Z (⟨"com/example/vitruvius/vitruvius/profile/ValueSummary", "characters", "()J"⟩ : MethodName) prog_68_method_13_code 1 (some .long) [] ({ frames := 0, cells := 0, slots := 0, locals := 0 } : Room) n0 #[(.ref a)] h0 (fun v h => v = some (.long x) ∧ h = h0) := by
  refine Con.mk pf_10 hw Z0 ?_
  intro p e s m below meth c T0 C X0
  have ef : entryFrame m #[(.ref a)] 1 = mkF m 0 #[.val (.ref a)] [] := by first | (simp [entryFrame, mkF, argsToLocals, Value.category]; done) | rfl
  rw [ef]
  show Go p e below s n0 _ _ _ (T0.setTop (mkF m 0 #[.val (.ref a)] []))
  refine Go.st (fun _ => XS.aloadN X0.here C.hx rfl (hb C.hby d10_0) rfl rfl) ?_
  show Go p e below s n0 _ _ _ (T0.setTop (mkF m 1 #[.val (.ref a)] [(.ref a)]))
  refine Go.getF C X0 (wd 33 rfl) F d10_1 (fun T196 X196 => ?_)
  show Go p e below s n0 _ _ _ (T196.setTop (mkF m 4 #[.val (.ref a)] [(.long x)]))
  exact Go.retJ C X196 d10_4 ⟨rfl, rfl⟩ (by decide) (by decide)
theorem d11_0 : decode prog_68_method_14_code 0 = .ok (.aload_n 0, 1) := by decide +kernel
theorem d11_1 : decode prog_68_method_14_code 1 = .ok (.getfield 23, 3) := by decide +kernel
theorem d11_4 : decode prog_68_method_14_code 4 = .ok (.ireturn, 1) := by decide +kernel
theorem pf_11 : plainFor (⟨"com/example/vitruvius/vitruvius/profile/ValueSummary", "maxBytes", "()I"⟩ : MethodName) = true := plainFor_of_name (by first | (simp [plainName, overriddenIn]; done) | decide +kernel)
theorem pd_11 : parseMethodDescriptor "()I" = some ⟨[], some .int⟩ := by decide +kernel
set_option maxRecDepth 65536 in
set_option maxHeartbeats 40000000 in
theorem con_maxBytes (l : Launch) (Z : State) (a0 : Array Value) (hw : ∀ d ∈ tables_1, d.before a0 Z = true) (n0 : Nat) (h0 : Heap) (Z0 : n0 ≤ h0.size) (a : Addr) (x : Int32) (F : Fld Z h0 a "com/example/vitruvius/vitruvius/profile/ValueSummary" "maxBytes" "I" (.int x)) :
    Con l Z (⟨"com/example/vitruvius/vitruvius/profile/ValueSummary", "maxBytes", "()I"⟩ : MethodName) prog_68_method_14_code 1 (some .int) [] ({ frames := 0, cells := 0, slots := 0, locals := 0 } : Room) n0 #[(.ref a)] h0 (fun v h => v = some (.int x) ∧ h = h0) := by
  refine Con.mk pf_11 hw Z0 ?_
  intro p e s m below meth c T0 C X0
  have ef : entryFrame m #[(.ref a)] 1 = mkF m 0 #[.val (.ref a)] [] := by first | (simp [entryFrame, mkF, argsToLocals, Value.category]; done) | rfl
  rw [ef]
  show Go p e below s n0 _ _ _ (T0.setTop (mkF m 0 #[.val (.ref a)] []))
  refine Go.st (fun _ => XS.aloadN X0.here C.hx rfl (hb C.hby d11_0) rfl rfl) ?_
  show Go p e below s n0 _ _ _ (T0.setTop (mkF m 1 #[.val (.ref a)] [(.ref a)]))
  refine Go.getF C X0 (wd 74 rfl) F d11_1 (fun T197 X197 => ?_)
  show Go p e below s n0 _ _ _ (T197.setTop (mkF m 4 #[.val (.ref a)] [(.int x)]))
  exact Go.retI C X197 d11_4 ⟨rfl, rfl⟩ (by decide) (by decide)
theorem pf_0 : plainFor x = true := plainFor_of_name (by first | (simp [plainName, overriddenIn]; done) | decide +kernel)
theorem pd_0 : parseMethodDescriptor "(JJJJ)Z" = some ⟨[.long, .long, .long, .long], some .boolean⟩ := by decide +kernel
theorem lus_bv (f : Int64) (k : Int32) (i : Nat) (hk : ((k &&& 0x3f).toInt64.toUInt64).toBitVec.toNat % 64 = i) : (lus f k).toBitVec = f.toBitVec >>> i := by
  subst hk
  show (f.toUInt64 >>> (k &&& 0x3f).toInt64.toUInt64).toBitVec = _
  rw [UInt64.toBitVec_shiftRight, BitVec.ushiftRight_eq']
  congr 1
theorem bit_sel (f n : Int64) (k : Int32) (i : Nat) (m : Int64) (hi : i < 64) (hk : ((k &&& 0x3f).toInt64.toUInt64).toBitVec.toNat % 64 = i) (hm : m.toBitVec = BitVec.twoPow 64 i) : sel (f &&& m) n = (lus f k &&& (1 : Int64)) * n := by
  have h1 : (lus f k &&& 1).toBitVec = if f.toBitVec.getLsbD i then 1#64 else 0#64 := by
    show (lus f k).toBitVec &&& 1#64 = _
    rw [lus_bv f k i hk]
    apply BitVec.eq_of_getLsbD_eq
    intro j hj
    by_cases q : f.toBitVec.getLsbD i <;> by_cases r : j = 0 <;> simp [q, r, hj]
  have h2 : f &&& m = 0 ↔ f.toBitVec.getLsbD i = false := by
    rw [← Int64.toBitVec_inj]
    show f.toBitVec &&& m.toBitVec = 0#64 ↔ _
    rw [hm, BitVec.and_twoPow]
    by_cases q : f.toBitVec.getLsbD i
    · simp [q]
      intro r
      have := congrArg (fun z => z.getLsbD i) r
      simp [hi] at this
    · simp [q]
  by_cases q : f.toBitVec.getLsbD i
  · have e1 : lus f k &&& 1 = 1 := by rw [← Int64.toBitVec_inj, h1]; simp [q]
    have e2 : ¬ f &&& m = 0 := by rw [h2]; simp [q]
    rw [e1]; simp [sel, e2]
  · have e1 : lus f k &&& 1 = 0 := by rw [← Int64.toBitVec_inj, h1]; simp [q]
    have e2 : f &&& m = 0 := by rw [h2]; simpa using q
    rw [e1]; simp [sel, e2]
theorem m_values (n1 n2 : Int64) : (((0 : Int64) + n1) + n2) = (n1 + n2) := by rw [Int64.zero_add]
theorem m_chars (f1 n1 f2 n2 : Int64) : (((0 : Int64) + (n1 * (lus f1 (4 : Int32)))) + (n2 * (lus f2 (4 : Int32)))) = (((lus f1 (4 : Int32)) * n1) + ((lus f2 (4 : Int32)) * n2)) := by rw [Int64.zero_add, Int64.mul_comm n1, Int64.mul_comm n2]
theorem m_b0 (f1 n1 f2 n2 : Int64) : (((0 : Int64) + sel (f1 &&& (1 : Int64)) n1) + sel (f2 &&& (1 : Int64)) n2) = (((lus f1 (0 : Int32) &&& (1 : Int64)) * n1) + ((lus f2 (0 : Int32) &&& (1 : Int64)) * n2)) := by
  rw [Int64.zero_add, bit_sel f1 n1 0 0 1 (by decide) (by decide) (by decide), bit_sel f2 n2 0 0 1 (by decide) (by decide) (by decide)]
theorem m_b1 (f1 n1 f2 n2 : Int64) : (((0 : Int64) + sel (f1 &&& (2 : Int64)) n1) + sel (f2 &&& (2 : Int64)) n2) = (((lus f1 (1 : Int32) &&& (1 : Int64)) * n1) + ((lus f2 (1 : Int32) &&& (1 : Int64)) * n2)) := by
  rw [Int64.zero_add, bit_sel f1 n1 1 1 2 (by decide) (by decide) (by decide), bit_sel f2 n2 1 1 2 (by decide) (by decide) (by decide)]
theorem m_b2 (f1 n1 f2 n2 : Int64) : (((0 : Int64) + sel (f1 &&& (4 : Int64)) n1) + sel (f2 &&& (4 : Int64)) n2) = (((lus f1 (2 : Int32) &&& (1 : Int64)) * n1) + ((lus f2 (2 : Int32) &&& (1 : Int64)) * n2)) := by
  rw [Int64.zero_add, bit_sel f1 n1 2 2 4 (by decide) (by decide) (by decide), bit_sel f2 n2 2 2 4 (by decide) (by decide) (by decide)]
theorem m_b3 (f1 n1 f2 n2 : Int64) : (((0 : Int64) + sel (f1 &&& (8 : Int64)) n1) + sel (f2 &&& (8 : Int64)) n2) = (((lus f1 (3 : Int32) &&& (1 : Int64)) * n1) + ((lus f2 (3 : Int32) &&& (1 : Int64)) * n2)) := by
  rw [Int64.zero_add, bit_sel f1 n1 3 3 8 (by decide) (by decide) (by decide), bit_sel f2 n2 3 3 8 (by decide) (by decide) (by decide)]
set_option maxRecDepth 65536 in
set_option maxHeartbeats 40000000 in
theorem con_law (l : Launch) (Z : State) (a0 : Array Value) (hw : ∀ d ∈ tables_1, d.before a0 Z = true) (n0 : Nat) (h0 : Heap) (Z0 : n0 ≤ h0.size) (f1 n1 f2 n2 : Int64)  :
    Con l Z x code maxLocals ret tables_1 room_1 n0 #[(.long f1), (.long n1), (.long f2), (.long n2)] h0 (fun v h => v = some (.int 1)) := by
  refine Con.mk pf_0 hw Z0 ?_
  intro p e s m below meth c T0 C X0
  have ef : entryFrame m #[(.long f1), (.long n1), (.long f2), (.long n2)] maxLocals = mkF m 0 #[.val (.long f1), .second, .val (.long n1), .second, .val (.long f2), .second, .val (.long n2), .second, .unset, .unset, .unset, .unset, .unset, .unset, .unset, .unset, .unset, .unset, .unset, .unset, .unset, .unset, .unset, .unset, .unset] [] := by first | (simp [entryFrame, mkF, argsToLocals, Value.category, maxLocals]; done) | rfl
  rw [ef]
  show Go p e below s n0 _ _ _ (T0.setTop (mkF m 0 #[.val (.long f1), .second, .val (.long n1), .second, .val (.long f2), .second, .val (.long n2), .second, .unset, .unset, .unset, .unset, .unset, .unset, .unset, .unset, .unset, .unset, .unset, .unset, .unset, .unset, .unset, .unset, .unset] []))
  refine Go.newO C X0 (wd 0 rfl) (wd 1 rfl) (wd 2 rfl) at_0 (by decide) (by decide) (fun T198 h198 b198 g198 ge198 X198 E198 A198 D198 => ?_)
  have F_integers_b198 : Fld Z h198 b198 "com/example/vitruvius/vitruvius/profile/ValueSummary" "integers" "Z" (.int (0 : Int32)) := D198 (Or.inl (wd 10 rfl)) (ty := .boolean) (by decide)
  have F_decimals_b198 : Fld Z h198 b198 "com/example/vitruvius/vitruvius/profile/ValueSummary" "decimals" "Z" (.int (0 : Int32)) := D198 (Or.inl (wd 12 rfl)) (ty := .boolean) (by decide)
  have F_booleans_b198 : Fld Z h198 b198 "com/example/vitruvius/vitruvius/profile/ValueSummary" "booleans" "Z" (.int (0 : Int32)) := D198 (Or.inl (wd 14 rfl)) (ty := .boolean) (by decide)
  have F_values_b198 : Fld Z h198 b198 "com/example/vitruvius/vitruvius/profile/ValueSummary" "values" "J" (.long (0 : Int64)) := D198 (Or.inl (wd 21 rfl)) (ty := .long) (by decide)
  have F_uuids_b198 : Fld Z h198 b198 "com/example/vitruvius/vitruvius/profile/ValueSummary" "uuids" "J" (.long (0 : Int64)) := D198 (Or.inl (wd 23 rfl)) (ty := .long) (by decide)
  have F_addresses_b198 : Fld Z h198 b198 "com/example/vitruvius/vitruvius/profile/ValueSummary" "addresses" "J" (.long (0 : Int64)) := D198 (Or.inl (wd 25 rfl)) (ty := .long) (by decide)
  have F_uris_b198 : Fld Z h198 b198 "com/example/vitruvius/vitruvius/profile/ValueSummary" "uris" "J" (.long (0 : Int64)) := D198 (Or.inl (wd 28 rfl)) (ty := .long) (by decide)
  have F_spaced_b198 : Fld Z h198 b198 "com/example/vitruvius/vitruvius/profile/ValueSummary" "spaced" "J" (.long (0 : Int64)) := D198 (Or.inl (wd 31 rfl)) (ty := .long) (by decide)
  have F_characters_b198 : Fld Z h198 b198 "com/example/vitruvius/vitruvius/profile/ValueSummary" "characters" "J" (.long (0 : Int64)) := D198 (Or.inl (wd 34 rfl)) (ty := .long) (by decide)
  have F_maxBytes_b198 : Fld Z h198 b198 "com/example/vitruvius/vitruvius/profile/ValueSummary" "maxBytes" "I" (.int (0 : Int32)) := D198 (Or.inl (wd 75 rfl)) (ty := .int) (by decide)
  show Go p e below s n0 _ _ _ (T198.setTop (mkF m 3 #[.val (.long f1), .second, .val (.long n1), .second, .val (.long f2), .second, .val (.long n2), .second, .unset, .unset, .unset, .unset, .unset, .unset, .unset, .unset, .unset, .unset, .unset, .unset, .unset, .unset, .unset, .unset, .unset] [(.ref b198)]))
  refine Go.st (fun _ => XS.dup X198.here C.hx rfl (hb C.hby at_3) rfl rfl) ?_
  show Go p e below s n0 _ _ _ (T198.setTop (mkF m 4 #[.val (.long f1), .second, .val (.long n1), .second, .val (.long f2), .second, .val (.long n2), .second, .unset, .unset, .unset, .unset, .unset, .unset, .unset, .unset, .unset, .unset, .unset, .unset, .unset, .unset, .unset, .unset, .unset] [(.ref b198), (.ref b198)]))
  refine Go.callInit C X198 (W := 1) (argsL := []) (rest := [(.ref b198)]) (a := b198) rfl (wd 3 rfl) (wd 4 rfl) (wd 2 rfl) (wd 5 rfl) (by decide) (con_init l Z a0 hw n0 h198 X198.size b198 ge198 A198 F_integers_b198 F_decimals_b198 F_booleans_b198 F_values_b198 F_uuids_b198 F_addresses_b198 F_uris_b198 F_spaced_b198 F_characters_b198 F_maxBytes_b198) (by decide) (by decide) rfl (lenOf pd_1 rfl) (Nat.le_of_ble_eq_true rfl) rfl at_4 (by decide) (by decide) (fun T199 h199 v199 X199 hQ199 => ?_)
  obtain ⟨rfl, E199, G0_199, G1_199, G2_199, G3_199, G4_199, G5_199, G6_199⟩ := hQ199
  show Go p e below s n0 _ _ _ (T199.setTop (mkF m 7 #[.val (.long f1), .second, .val (.long n1), .second, .val (.long f2), .second, .val (.long n2), .second, .unset, .unset, .unset, .unset, .unset, .unset, .unset, .unset, .unset, .unset, .unset, .unset, .unset, .unset, .unset, .unset, .unset] [(.ref b198)]))
  refine Go.st (fun _ => XS.astore X199.here C.hx rfl (hb C.hby at_7) rfl rfl (l' := #[.val (.long f1), .second, .val (.long n1), .second, .val (.long f2), .second, .val (.long n2), .second, .val (.ref b198), .unset, .unset, .unset, .unset, .unset, .unset, .unset, .unset, .unset, .unset, .unset, .unset, .unset, .unset, .unset, .unset]) rfl) ?_
  show Go p e below s n0 _ _ _ (T199.setTop (mkF m 9 #[.val (.long f1), .second, .val (.long n1), .second, .val (.long f2), .second, .val (.long n2), .second, .val (.ref b198), .unset, .unset, .unset, .unset, .unset, .unset, .unset, .unset, .unset, .unset, .unset, .unset, .unset, .unset, .unset, .unset] []))
  refine Go.st (fun _ => XS.aload X199.here C.hx rfl (hb C.hby at_9) rfl rfl) ?_
  show Go p e below s n0 _ _ _ (T199.setTop (mkF m 11 #[.val (.long f1), .second, .val (.long n1), .second, .val (.long f2), .second, .val (.long n2), .second, .val (.ref b198), .unset, .unset, .unset, .unset, .unset, .unset, .unset, .unset, .unset, .unset, .unset, .unset, .unset, .unset, .unset, .unset] [(.ref b198)]))
  refine Go.st (fun _ => XS.lloadN X199.here C.hx rfl (hb C.hby at_11) rfl) ?_
  show Go p e below s n0 _ _ _ (T199.setTop (mkF m 12 #[.val (.long f1), .second, .val (.long n1), .second, .val (.long f2), .second, .val (.long n2), .second, .val (.ref b198), .unset, .unset, .unset, .unset, .unset, .unset, .unset, .unset, .unset, .unset, .unset, .unset, .unset, .unset, .unset, .unset] [(.long f1), (.ref b198)]))
  refine Go.st (fun _ => XS.lloadN X199.here C.hx rfl (hb C.hby at_12) rfl) ?_
  show Go p e below s n0 _ _ _ (T199.setTop (mkF m 13 #[.val (.long f1), .second, .val (.long n1), .second, .val (.long f2), .second, .val (.long n2), .second, .val (.ref b198), .unset, .unset, .unset, .unset, .unset, .unset, .unset, .unset, .unset, .unset, .unset, .unset, .unset, .unset, .unset, .unset] [(.long n1), (.long f1), (.ref b198)]))
  refine Go.callV C X199 (W := 0) (argsL := [(.long f1), (.long n1)]) (rest := []) (a := b198) E199 (wd 15 rfl) (wd 16 rfl) (wd 18 rfl) (wd 17 rfl) (wd 2 rfl) (wd 19 rfl) (by decide) rfl (con_add l Z a0 hw n0 h199 X199.size b198 f1 n1 (0 : Int64) (0 : Int64) (0 : Int64) (0 : Int64) (0 : Int64) (0 : Int64) ge198 E199 G0_199 G1_199 G2_199 G3_199 G4_199 G5_199 G6_199) (by decide) (by decide) rfl (lenOf pd_3 rfl) (Nat.le_of_ble_eq_true rfl) rfl at_13 (by decide) (by decide) (fun T200 h200 v200 X200 hQ200 => ?_)
  obtain ⟨rfl, E200, G0_200, G1_200, G2_200, G3_200, G4_200, G5_200, G6_200⟩ := hQ200
  show Go p e below s n0 _ _ _ (T200.setTop (mkF m 16 #[.val (.long f1), .second, .val (.long n1), .second, .val (.long f2), .second, .val (.long n2), .second, .val (.ref b198), .unset, .unset, .unset, .unset, .unset, .unset, .unset, .unset, .unset, .unset, .unset, .unset, .unset, .unset, .unset, .unset] []))
  refine Go.st (fun _ => XS.aload X200.here C.hx rfl (hb C.hby at_16) rfl rfl) ?_
  show Go p e below s n0 _ _ _ (T200.setTop (mkF m 18 #[.val (.long f1), .second, .val (.long n1), .second, .val (.long f2), .second, .val (.long n2), .second, .val (.ref b198), .unset, .unset, .unset, .unset, .unset, .unset, .unset, .unset, .unset, .unset, .unset, .unset, .unset, .unset, .unset, .unset] [(.ref b198)]))
  refine Go.st (fun _ => XS.lload X200.here C.hx rfl (hb C.hby at_18) rfl) ?_
  show Go p e below s n0 _ _ _ (T200.setTop (mkF m 20 #[.val (.long f1), .second, .val (.long n1), .second, .val (.long f2), .second, .val (.long n2), .second, .val (.ref b198), .unset, .unset, .unset, .unset, .unset, .unset, .unset, .unset, .unset, .unset, .unset, .unset, .unset, .unset, .unset, .unset] [(.long f2), (.ref b198)]))
  refine Go.st (fun _ => XS.lload X200.here C.hx rfl (hb C.hby at_20) rfl) ?_
  show Go p e below s n0 _ _ _ (T200.setTop (mkF m 22 #[.val (.long f1), .second, .val (.long n1), .second, .val (.long f2), .second, .val (.long n2), .second, .val (.ref b198), .unset, .unset, .unset, .unset, .unset, .unset, .unset, .unset, .unset, .unset, .unset, .unset, .unset, .unset, .unset, .unset] [(.long n2), (.long f2), (.ref b198)]))
  refine Go.callV C X200 (W := 0) (argsL := [(.long f2), (.long n2)]) (rest := []) (a := b198) E200 (wd 15 rfl) (wd 16 rfl) (wd 18 rfl) (wd 17 rfl) (wd 2 rfl) (wd 19 rfl) (by decide) rfl (con_add l Z a0 hw n0 h200 X200.size b198 f2 n2 ((0 : Int64) + n1) ((0 : Int64) + sel (f1 &&& (1 : Int64)) n1) ((0 : Int64) + sel (f1 &&& (2 : Int64)) n1) ((0 : Int64) + sel (f1 &&& (4 : Int64)) n1) ((0 : Int64) + sel (f1 &&& (8 : Int64)) n1) ((0 : Int64) + (n1 * (lus f1 (4 : Int32)))) ge198 E200 G0_200 G1_200 G2_200 G3_200 G4_200 G5_200 G6_200) (by decide) (by decide) rfl (lenOf pd_3 rfl) (Nat.le_of_ble_eq_true rfl) rfl at_22 (by decide) (by decide) (fun T201 h201 v201 X201 hQ201 => ?_)
  obtain ⟨rfl, E201, G0_201, G1_201, G2_201, G3_201, G4_201, G5_201, G6_201⟩ := hQ201
  show Go p e below s n0 _ _ _ (T201.setTop (mkF m 25 #[.val (.long f1), .second, .val (.long n1), .second, .val (.long f2), .second, .val (.long n2), .second, .val (.ref b198), .unset, .unset, .unset, .unset, .unset, .unset, .unset, .unset, .unset, .unset, .unset, .unset, .unset, .unset, .unset, .unset] []))
  refine Go.st (fun _ => XS.lloadN X201.here C.hx rfl (hb C.hby at_25) rfl) ?_
  show Go p e below s n0 _ _ _ (T201.setTop (mkF m 26 #[.val (.long f1), .second, .val (.long n1), .second, .val (.long f2), .second, .val (.long n2), .second, .val (.ref b198), .unset, .unset, .unset, .unset, .unset, .unset, .unset, .unset, .unset, .unset, .unset, .unset, .unset, .unset, .unset, .unset] [(.long n1)]))
  refine Go.st (fun _ => XS.lload X201.here C.hx rfl (hb C.hby at_26) rfl) ?_
  show Go p e below s n0 _ _ _ (T201.setTop (mkF m 28 #[.val (.long f1), .second, .val (.long n1), .second, .val (.long f2), .second, .val (.long n2), .second, .val (.ref b198), .unset, .unset, .unset, .unset, .unset, .unset, .unset, .unset, .unset, .unset, .unset, .unset, .unset, .unset, .unset, .unset] [(.long n2), (.long n1)]))
  refine Go.st (fun _ => XS.ladd X201.here C.hx rfl (hb C.hby at_28) rfl) ?_
  show Go p e below s n0 _ _ _ (T201.setTop (mkF m 29 #[.val (.long f1), .second, .val (.long n1), .second, .val (.long f2), .second, .val (.long n2), .second, .val (.ref b198), .unset, .unset, .unset, .unset, .unset, .unset, .unset, .unset, .unset, .unset, .unset, .unset, .unset, .unset, .unset, .unset] [(.long (n1 + n2))]))
  refine Go.st (fun _ => XS.lstore X201.here C.hx rfl (hb C.hby at_29) rfl (l' := #[.val (.long f1), .second, .val (.long n1), .second, .val (.long f2), .second, .val (.long n2), .second, .val (.ref b198), .val (.long (n1 + n2)), .second, .unset, .unset, .unset, .unset, .unset, .unset, .unset, .unset, .unset, .unset, .unset, .unset, .unset, .unset]) rfl) ?_
  show Go p e below s n0 _ _ _ (T201.setTop (mkF m 31 #[.val (.long f1), .second, .val (.long n1), .second, .val (.long f2), .second, .val (.long n2), .second, .val (.ref b198), .val (.long (n1 + n2)), .second, .unset, .unset, .unset, .unset, .unset, .unset, .unset, .unset, .unset, .unset, .unset, .unset, .unset, .unset] []))
  refine Go.st (fun _ => XS.lloadN X201.here C.hx rfl (hb C.hby at_31) rfl) ?_
  show Go p e below s n0 _ _ _ (T201.setTop (mkF m 32 #[.val (.long f1), .second, .val (.long n1), .second, .val (.long f2), .second, .val (.long n2), .second, .val (.ref b198), .val (.long (n1 + n2)), .second, .unset, .unset, .unset, .unset, .unset, .unset, .unset, .unset, .unset, .unset, .unset, .unset, .unset, .unset] [(.long f1)]))
  refine Go.st (fun _ => XS.iconst X201.here C.hx rfl (hb C.hby at_32)) ?_
  show Go p e below s n0 _ _ _ (T201.setTop (mkF m 33 #[.val (.long f1), .second, .val (.long n1), .second, .val (.long f2), .second, .val (.long n2), .second, .val (.ref b198), .val (.long (n1 + n2)), .second, .unset, .unset, .unset, .unset, .unset, .unset, .unset, .unset, .unset, .unset, .unset, .unset, .unset, .unset] [(.int (0 : Int32)), (.long f1)]))
  refine Go.callS C X201 (W := 0) (argsL := [(.long f1), (.int (0 : Int32))]) (rest := []) (wd 35 rfl) (wd 36 rfl) (wd 37 rfl) (wd 38 rfl) (by decide) (con_bit l Z a0 hw n0 h201 X201.size f1 (0 : Int32)) (by decide) (by decide) rfl (lenOf pd_4 rfl) (Nat.le_of_ble_eq_true rfl) rfl at_33 (by decide) (by decide) (fun T202 h202 v202 X202 hQ202 => ?_)
  obtain ⟨rfl, hh202⟩ := hQ202
  rw [hh202] at X202
  show Go p e below s n0 _ _ _ (T202.setTop (mkF m 36 #[.val (.long f1), .second, .val (.long n1), .second, .val (.long f2), .second, .val (.long n2), .second, .val (.ref b198), .val (.long (n1 + n2)), .second, .unset, .unset, .unset, .unset, .unset, .unset, .unset, .unset, .unset, .unset, .unset, .unset, .unset, .unset] [(.long (lus f1 (0 : Int32) &&& (1 : Int64)))]))
  refine Go.st (fun _ => XS.lloadN X202.here C.hx rfl (hb C.hby at_36) rfl) ?_
  show Go p e below s n0 _ _ _ (T202.setTop (mkF m 37 #[.val (.long f1), .second, .val (.long n1), .second, .val (.long f2), .second, .val (.long n2), .second, .val (.ref b198), .val (.long (n1 + n2)), .second, .unset, .unset, .unset, .unset, .unset, .unset, .unset, .unset, .unset, .unset, .unset, .unset, .unset, .unset] [(.long n1), (.long (lus f1 (0 : Int32) &&& (1 : Int64)))]))
  refine Go.st (fun _ => XS.lmul X202.here C.hx rfl (hb C.hby at_37) rfl) ?_
  show Go p e below s n0 _ _ _ (T202.setTop (mkF m 38 #[.val (.long f1), .second, .val (.long n1), .second, .val (.long f2), .second, .val (.long n2), .second, .val (.ref b198), .val (.long (n1 + n2)), .second, .unset, .unset, .unset, .unset, .unset, .unset, .unset, .unset, .unset, .unset, .unset, .unset, .unset, .unset] [(.long ((lus f1 (0 : Int32) &&& (1 : Int64)) * n1))]))
  refine Go.st (fun _ => XS.lload X202.here C.hx rfl (hb C.hby at_38) rfl) ?_
  show Go p e below s n0 _ _ _ (T202.setTop (mkF m 40 #[.val (.long f1), .second, .val (.long n1), .second, .val (.long f2), .second, .val (.long n2), .second, .val (.ref b198), .val (.long (n1 + n2)), .second, .unset, .unset, .unset, .unset, .unset, .unset, .unset, .unset, .unset, .unset, .unset, .unset, .unset, .unset] [(.long f2), (.long ((lus f1 (0 : Int32) &&& (1 : Int64)) * n1))]))
  refine Go.st (fun _ => XS.iconst X202.here C.hx rfl (hb C.hby at_40)) ?_
  show Go p e below s n0 _ _ _ (T202.setTop (mkF m 41 #[.val (.long f1), .second, .val (.long n1), .second, .val (.long f2), .second, .val (.long n2), .second, .val (.ref b198), .val (.long (n1 + n2)), .second, .unset, .unset, .unset, .unset, .unset, .unset, .unset, .unset, .unset, .unset, .unset, .unset, .unset, .unset] [(.int (0 : Int32)), (.long f2), (.long ((lus f1 (0 : Int32) &&& (1 : Int64)) * n1))]))
  refine Go.callS C X202 (W := 2) (argsL := [(.long f2), (.int (0 : Int32))]) (rest := [(.long ((lus f1 (0 : Int32) &&& (1 : Int64)) * n1))]) (wd 35 rfl) (wd 36 rfl) (wd 37 rfl) (wd 38 rfl) (by decide) (con_bit l Z a0 hw n0 h201 X202.size f2 (0 : Int32)) (by decide) (by decide) rfl (lenOf pd_4 rfl) (Nat.le_of_ble_eq_true rfl) rfl at_41 (by decide) (by decide) (fun T203 h203 v203 X203 hQ203 => ?_)
  obtain ⟨rfl, hh203⟩ := hQ203
  rw [hh203] at X203
  show Go p e below s n0 _ _ _ (T203.setTop (mkF m 44 #[.val (.long f1), .second, .val (.long n1), .second, .val (.long f2), .second, .val (.long n2), .second, .val (.ref b198), .val (.long (n1 + n2)), .second, .unset, .unset, .unset, .unset, .unset, .unset, .unset, .unset, .unset, .unset, .unset, .unset, .unset, .unset] [(.long (lus f2 (0 : Int32) &&& (1 : Int64))), (.long ((lus f1 (0 : Int32) &&& (1 : Int64)) * n1))]))
  refine Go.st (fun _ => XS.lload X203.here C.hx rfl (hb C.hby at_44) rfl) ?_
  show Go p e below s n0 _ _ _ (T203.setTop (mkF m 46 #[.val (.long f1), .second, .val (.long n1), .second, .val (.long f2), .second, .val (.long n2), .second, .val (.ref b198), .val (.long (n1 + n2)), .second, .unset, .unset, .unset, .unset, .unset, .unset, .unset, .unset, .unset, .unset, .unset, .unset, .unset, .unset] [(.long n2), (.long (lus f2 (0 : Int32) &&& (1 : Int64))), (.long ((lus f1 (0 : Int32) &&& (1 : Int64)) * n1))]))
  refine Go.st (fun _ => XS.lmul X203.here C.hx rfl (hb C.hby at_46) rfl) ?_
  show Go p e below s n0 _ _ _ (T203.setTop (mkF m 47 #[.val (.long f1), .second, .val (.long n1), .second, .val (.long f2), .second, .val (.long n2), .second, .val (.ref b198), .val (.long (n1 + n2)), .second, .unset, .unset, .unset, .unset, .unset, .unset, .unset, .unset, .unset, .unset, .unset, .unset, .unset, .unset] [(.long ((lus f2 (0 : Int32) &&& (1 : Int64)) * n2)), (.long ((lus f1 (0 : Int32) &&& (1 : Int64)) * n1))]))
  refine Go.st (fun _ => XS.ladd X203.here C.hx rfl (hb C.hby at_47) rfl) ?_
  show Go p e below s n0 _ _ _ (T203.setTop (mkF m 48 #[.val (.long f1), .second, .val (.long n1), .second, .val (.long f2), .second, .val (.long n2), .second, .val (.ref b198), .val (.long (n1 + n2)), .second, .unset, .unset, .unset, .unset, .unset, .unset, .unset, .unset, .unset, .unset, .unset, .unset, .unset, .unset] [(.long (((lus f1 (0 : Int32) &&& (1 : Int64)) * n1) + ((lus f2 (0 : Int32) &&& (1 : Int64)) * n2)))]))
  refine Go.st (fun _ => XS.lstore X203.here C.hx rfl (hb C.hby at_48) rfl (l' := #[.val (.long f1), .second, .val (.long n1), .second, .val (.long f2), .second, .val (.long n2), .second, .val (.ref b198), .val (.long (n1 + n2)), .second, .val (.long (((lus f1 (0 : Int32) &&& (1 : Int64)) * n1) + ((lus f2 (0 : Int32) &&& (1 : Int64)) * n2))), .second, .unset, .unset, .unset, .unset, .unset, .unset, .unset, .unset, .unset, .unset, .unset, .unset]) rfl) ?_
  show Go p e below s n0 _ _ _ (T203.setTop (mkF m 50 #[.val (.long f1), .second, .val (.long n1), .second, .val (.long f2), .second, .val (.long n2), .second, .val (.ref b198), .val (.long (n1 + n2)), .second, .val (.long (((lus f1 (0 : Int32) &&& (1 : Int64)) * n1) + ((lus f2 (0 : Int32) &&& (1 : Int64)) * n2))), .second, .unset, .unset, .unset, .unset, .unset, .unset, .unset, .unset, .unset, .unset, .unset, .unset] []))
  refine Go.st (fun _ => XS.lloadN X203.here C.hx rfl (hb C.hby at_50) rfl) ?_
  show Go p e below s n0 _ _ _ (T203.setTop (mkF m 51 #[.val (.long f1), .second, .val (.long n1), .second, .val (.long f2), .second, .val (.long n2), .second, .val (.ref b198), .val (.long (n1 + n2)), .second, .val (.long (((lus f1 (0 : Int32) &&& (1 : Int64)) * n1) + ((lus f2 (0 : Int32) &&& (1 : Int64)) * n2))), .second, .unset, .unset, .unset, .unset, .unset, .unset, .unset, .unset, .unset, .unset, .unset, .unset] [(.long f1)]))
  refine Go.st (fun _ => XS.iconst X203.here C.hx rfl (hb C.hby at_51)) ?_
  show Go p e below s n0 _ _ _ (T203.setTop (mkF m 52 #[.val (.long f1), .second, .val (.long n1), .second, .val (.long f2), .second, .val (.long n2), .second, .val (.ref b198), .val (.long (n1 + n2)), .second, .val (.long (((lus f1 (0 : Int32) &&& (1 : Int64)) * n1) + ((lus f2 (0 : Int32) &&& (1 : Int64)) * n2))), .second, .unset, .unset, .unset, .unset, .unset, .unset, .unset, .unset, .unset, .unset, .unset, .unset] [(.int (1 : Int32)), (.long f1)]))
  refine Go.callS C X203 (W := 0) (argsL := [(.long f1), (.int (1 : Int32))]) (rest := []) (wd 35 rfl) (wd 36 rfl) (wd 37 rfl) (wd 38 rfl) (by decide) (con_bit l Z a0 hw n0 h201 X203.size f1 (1 : Int32)) (by decide) (by decide) rfl (lenOf pd_4 rfl) (Nat.le_of_ble_eq_true rfl) rfl at_52 (by decide) (by decide) (fun T204 h204 v204 X204 hQ204 => ?_)
  obtain ⟨rfl, hh204⟩ := hQ204
  rw [hh204] at X204
  show Go p e below s n0 _ _ _ (T204.setTop (mkF m 55 #[.val (.long f1), .second, .val (.long n1), .second, .val (.long f2), .second, .val (.long n2), .second, .val (.ref b198), .val (.long (n1 + n2)), .second, .val (.long (((lus f1 (0 : Int32) &&& (1 : Int64)) * n1) + ((lus f2 (0 : Int32) &&& (1 : Int64)) * n2))), .second, .unset, .unset, .unset, .unset, .unset, .unset, .unset, .unset, .unset, .unset, .unset, .unset] [(.long (lus f1 (1 : Int32) &&& (1 : Int64)))]))
  refine Go.st (fun _ => XS.lloadN X204.here C.hx rfl (hb C.hby at_55) rfl) ?_
  show Go p e below s n0 _ _ _ (T204.setTop (mkF m 56 #[.val (.long f1), .second, .val (.long n1), .second, .val (.long f2), .second, .val (.long n2), .second, .val (.ref b198), .val (.long (n1 + n2)), .second, .val (.long (((lus f1 (0 : Int32) &&& (1 : Int64)) * n1) + ((lus f2 (0 : Int32) &&& (1 : Int64)) * n2))), .second, .unset, .unset, .unset, .unset, .unset, .unset, .unset, .unset, .unset, .unset, .unset, .unset] [(.long n1), (.long (lus f1 (1 : Int32) &&& (1 : Int64)))]))
  refine Go.st (fun _ => XS.lmul X204.here C.hx rfl (hb C.hby at_56) rfl) ?_
  show Go p e below s n0 _ _ _ (T204.setTop (mkF m 57 #[.val (.long f1), .second, .val (.long n1), .second, .val (.long f2), .second, .val (.long n2), .second, .val (.ref b198), .val (.long (n1 + n2)), .second, .val (.long (((lus f1 (0 : Int32) &&& (1 : Int64)) * n1) + ((lus f2 (0 : Int32) &&& (1 : Int64)) * n2))), .second, .unset, .unset, .unset, .unset, .unset, .unset, .unset, .unset, .unset, .unset, .unset, .unset] [(.long ((lus f1 (1 : Int32) &&& (1 : Int64)) * n1))]))
  refine Go.st (fun _ => XS.lload X204.here C.hx rfl (hb C.hby at_57) rfl) ?_
  show Go p e below s n0 _ _ _ (T204.setTop (mkF m 59 #[.val (.long f1), .second, .val (.long n1), .second, .val (.long f2), .second, .val (.long n2), .second, .val (.ref b198), .val (.long (n1 + n2)), .second, .val (.long (((lus f1 (0 : Int32) &&& (1 : Int64)) * n1) + ((lus f2 (0 : Int32) &&& (1 : Int64)) * n2))), .second, .unset, .unset, .unset, .unset, .unset, .unset, .unset, .unset, .unset, .unset, .unset, .unset] [(.long f2), (.long ((lus f1 (1 : Int32) &&& (1 : Int64)) * n1))]))
  refine Go.st (fun _ => XS.iconst X204.here C.hx rfl (hb C.hby at_59)) ?_
  show Go p e below s n0 _ _ _ (T204.setTop (mkF m 60 #[.val (.long f1), .second, .val (.long n1), .second, .val (.long f2), .second, .val (.long n2), .second, .val (.ref b198), .val (.long (n1 + n2)), .second, .val (.long (((lus f1 (0 : Int32) &&& (1 : Int64)) * n1) + ((lus f2 (0 : Int32) &&& (1 : Int64)) * n2))), .second, .unset, .unset, .unset, .unset, .unset, .unset, .unset, .unset, .unset, .unset, .unset, .unset] [(.int (1 : Int32)), (.long f2), (.long ((lus f1 (1 : Int32) &&& (1 : Int64)) * n1))]))
  refine Go.callS C X204 (W := 2) (argsL := [(.long f2), (.int (1 : Int32))]) (rest := [(.long ((lus f1 (1 : Int32) &&& (1 : Int64)) * n1))]) (wd 35 rfl) (wd 36 rfl) (wd 37 rfl) (wd 38 rfl) (by decide) (con_bit l Z a0 hw n0 h201 X204.size f2 (1 : Int32)) (by decide) (by decide) rfl (lenOf pd_4 rfl) (Nat.le_of_ble_eq_true rfl) rfl at_60 (by decide) (by decide) (fun T205 h205 v205 X205 hQ205 => ?_)
  obtain ⟨rfl, hh205⟩ := hQ205
  rw [hh205] at X205
  show Go p e below s n0 _ _ _ (T205.setTop (mkF m 63 #[.val (.long f1), .second, .val (.long n1), .second, .val (.long f2), .second, .val (.long n2), .second, .val (.ref b198), .val (.long (n1 + n2)), .second, .val (.long (((lus f1 (0 : Int32) &&& (1 : Int64)) * n1) + ((lus f2 (0 : Int32) &&& (1 : Int64)) * n2))), .second, .unset, .unset, .unset, .unset, .unset, .unset, .unset, .unset, .unset, .unset, .unset, .unset] [(.long (lus f2 (1 : Int32) &&& (1 : Int64))), (.long ((lus f1 (1 : Int32) &&& (1 : Int64)) * n1))]))
  refine Go.st (fun _ => XS.lload X205.here C.hx rfl (hb C.hby at_63) rfl) ?_
  show Go p e below s n0 _ _ _ (T205.setTop (mkF m 65 #[.val (.long f1), .second, .val (.long n1), .second, .val (.long f2), .second, .val (.long n2), .second, .val (.ref b198), .val (.long (n1 + n2)), .second, .val (.long (((lus f1 (0 : Int32) &&& (1 : Int64)) * n1) + ((lus f2 (0 : Int32) &&& (1 : Int64)) * n2))), .second, .unset, .unset, .unset, .unset, .unset, .unset, .unset, .unset, .unset, .unset, .unset, .unset] [(.long n2), (.long (lus f2 (1 : Int32) &&& (1 : Int64))), (.long ((lus f1 (1 : Int32) &&& (1 : Int64)) * n1))]))
  refine Go.st (fun _ => XS.lmul X205.here C.hx rfl (hb C.hby at_65) rfl) ?_
  show Go p e below s n0 _ _ _ (T205.setTop (mkF m 66 #[.val (.long f1), .second, .val (.long n1), .second, .val (.long f2), .second, .val (.long n2), .second, .val (.ref b198), .val (.long (n1 + n2)), .second, .val (.long (((lus f1 (0 : Int32) &&& (1 : Int64)) * n1) + ((lus f2 (0 : Int32) &&& (1 : Int64)) * n2))), .second, .unset, .unset, .unset, .unset, .unset, .unset, .unset, .unset, .unset, .unset, .unset, .unset] [(.long ((lus f2 (1 : Int32) &&& (1 : Int64)) * n2)), (.long ((lus f1 (1 : Int32) &&& (1 : Int64)) * n1))]))
  refine Go.st (fun _ => XS.ladd X205.here C.hx rfl (hb C.hby at_66) rfl) ?_
  show Go p e below s n0 _ _ _ (T205.setTop (mkF m 67 #[.val (.long f1), .second, .val (.long n1), .second, .val (.long f2), .second, .val (.long n2), .second, .val (.ref b198), .val (.long (n1 + n2)), .second, .val (.long (((lus f1 (0 : Int32) &&& (1 : Int64)) * n1) + ((lus f2 (0 : Int32) &&& (1 : Int64)) * n2))), .second, .unset, .unset, .unset, .unset, .unset, .unset, .unset, .unset, .unset, .unset, .unset, .unset] [(.long (((lus f1 (1 : Int32) &&& (1 : Int64)) * n1) + ((lus f2 (1 : Int32) &&& (1 : Int64)) * n2)))]))
  refine Go.st (fun _ => XS.lstore X205.here C.hx rfl (hb C.hby at_67) rfl (l' := #[.val (.long f1), .second, .val (.long n1), .second, .val (.long f2), .second, .val (.long n2), .second, .val (.ref b198), .val (.long (n1 + n2)), .second, .val (.long (((lus f1 (0 : Int32) &&& (1 : Int64)) * n1) + ((lus f2 (0 : Int32) &&& (1 : Int64)) * n2))), .second, .val (.long (((lus f1 (1 : Int32) &&& (1 : Int64)) * n1) + ((lus f2 (1 : Int32) &&& (1 : Int64)) * n2))), .second, .unset, .unset, .unset, .unset, .unset, .unset, .unset, .unset, .unset, .unset]) rfl) ?_
  show Go p e below s n0 _ _ _ (T205.setTop (mkF m 69 #[.val (.long f1), .second, .val (.long n1), .second, .val (.long f2), .second, .val (.long n2), .second, .val (.ref b198), .val (.long (n1 + n2)), .second, .val (.long (((lus f1 (0 : Int32) &&& (1 : Int64)) * n1) + ((lus f2 (0 : Int32) &&& (1 : Int64)) * n2))), .second, .val (.long (((lus f1 (1 : Int32) &&& (1 : Int64)) * n1) + ((lus f2 (1 : Int32) &&& (1 : Int64)) * n2))), .second, .unset, .unset, .unset, .unset, .unset, .unset, .unset, .unset, .unset, .unset] []))
  refine Go.st (fun _ => XS.lloadN X205.here C.hx rfl (hb C.hby at_69) rfl) ?_
  show Go p e below s n0 _ _ _ (T205.setTop (mkF m 70 #[.val (.long f1), .second, .val (.long n1), .second, .val (.long f2), .second, .val (.long n2), .second, .val (.ref b198), .val (.long (n1 + n2)), .second, .val (.long (((lus f1 (0 : Int32) &&& (1 : Int64)) * n1) + ((lus f2 (0 : Int32) &&& (1 : Int64)) * n2))), .second, .val (.long (((lus f1 (1 : Int32) &&& (1 : Int64)) * n1) + ((lus f2 (1 : Int32) &&& (1 : Int64)) * n2))), .second, .unset, .unset, .unset, .unset, .unset, .unset, .unset, .unset, .unset, .unset] [(.long f1)]))
  refine Go.st (fun _ => XS.iconst X205.here C.hx rfl (hb C.hby at_70)) ?_
  show Go p e below s n0 _ _ _ (T205.setTop (mkF m 71 #[.val (.long f1), .second, .val (.long n1), .second, .val (.long f2), .second, .val (.long n2), .second, .val (.ref b198), .val (.long (n1 + n2)), .second, .val (.long (((lus f1 (0 : Int32) &&& (1 : Int64)) * n1) + ((lus f2 (0 : Int32) &&& (1 : Int64)) * n2))), .second, .val (.long (((lus f1 (1 : Int32) &&& (1 : Int64)) * n1) + ((lus f2 (1 : Int32) &&& (1 : Int64)) * n2))), .second, .unset, .unset, .unset, .unset, .unset, .unset, .unset, .unset, .unset, .unset] [(.int (2 : Int32)), (.long f1)]))
  refine Go.callS C X205 (W := 0) (argsL := [(.long f1), (.int (2 : Int32))]) (rest := []) (wd 35 rfl) (wd 36 rfl) (wd 37 rfl) (wd 38 rfl) (by decide) (con_bit l Z a0 hw n0 h201 X205.size f1 (2 : Int32)) (by decide) (by decide) rfl (lenOf pd_4 rfl) (Nat.le_of_ble_eq_true rfl) rfl at_71 (by decide) (by decide) (fun T206 h206 v206 X206 hQ206 => ?_)
  obtain ⟨rfl, hh206⟩ := hQ206
  rw [hh206] at X206
  show Go p e below s n0 _ _ _ (T206.setTop (mkF m 74 #[.val (.long f1), .second, .val (.long n1), .second, .val (.long f2), .second, .val (.long n2), .second, .val (.ref b198), .val (.long (n1 + n2)), .second, .val (.long (((lus f1 (0 : Int32) &&& (1 : Int64)) * n1) + ((lus f2 (0 : Int32) &&& (1 : Int64)) * n2))), .second, .val (.long (((lus f1 (1 : Int32) &&& (1 : Int64)) * n1) + ((lus f2 (1 : Int32) &&& (1 : Int64)) * n2))), .second, .unset, .unset, .unset, .unset, .unset, .unset, .unset, .unset, .unset, .unset] [(.long (lus f1 (2 : Int32) &&& (1 : Int64)))]))
  refine Go.st (fun _ => XS.lloadN X206.here C.hx rfl (hb C.hby at_74) rfl) ?_
  show Go p e below s n0 _ _ _ (T206.setTop (mkF m 75 #[.val (.long f1), .second, .val (.long n1), .second, .val (.long f2), .second, .val (.long n2), .second, .val (.ref b198), .val (.long (n1 + n2)), .second, .val (.long (((lus f1 (0 : Int32) &&& (1 : Int64)) * n1) + ((lus f2 (0 : Int32) &&& (1 : Int64)) * n2))), .second, .val (.long (((lus f1 (1 : Int32) &&& (1 : Int64)) * n1) + ((lus f2 (1 : Int32) &&& (1 : Int64)) * n2))), .second, .unset, .unset, .unset, .unset, .unset, .unset, .unset, .unset, .unset, .unset] [(.long n1), (.long (lus f1 (2 : Int32) &&& (1 : Int64)))]))
  refine Go.st (fun _ => XS.lmul X206.here C.hx rfl (hb C.hby at_75) rfl) ?_
  show Go p e below s n0 _ _ _ (T206.setTop (mkF m 76 #[.val (.long f1), .second, .val (.long n1), .second, .val (.long f2), .second, .val (.long n2), .second, .val (.ref b198), .val (.long (n1 + n2)), .second, .val (.long (((lus f1 (0 : Int32) &&& (1 : Int64)) * n1) + ((lus f2 (0 : Int32) &&& (1 : Int64)) * n2))), .second, .val (.long (((lus f1 (1 : Int32) &&& (1 : Int64)) * n1) + ((lus f2 (1 : Int32) &&& (1 : Int64)) * n2))), .second, .unset, .unset, .unset, .unset, .unset, .unset, .unset, .unset, .unset, .unset] [(.long ((lus f1 (2 : Int32) &&& (1 : Int64)) * n1))]))
  refine Go.st (fun _ => XS.lload X206.here C.hx rfl (hb C.hby at_76) rfl) ?_
  show Go p e below s n0 _ _ _ (T206.setTop (mkF m 78 #[.val (.long f1), .second, .val (.long n1), .second, .val (.long f2), .second, .val (.long n2), .second, .val (.ref b198), .val (.long (n1 + n2)), .second, .val (.long (((lus f1 (0 : Int32) &&& (1 : Int64)) * n1) + ((lus f2 (0 : Int32) &&& (1 : Int64)) * n2))), .second, .val (.long (((lus f1 (1 : Int32) &&& (1 : Int64)) * n1) + ((lus f2 (1 : Int32) &&& (1 : Int64)) * n2))), .second, .unset, .unset, .unset, .unset, .unset, .unset, .unset, .unset, .unset, .unset] [(.long f2), (.long ((lus f1 (2 : Int32) &&& (1 : Int64)) * n1))]))
  refine Go.st (fun _ => XS.iconst X206.here C.hx rfl (hb C.hby at_78)) ?_
  show Go p e below s n0 _ _ _ (T206.setTop (mkF m 79 #[.val (.long f1), .second, .val (.long n1), .second, .val (.long f2), .second, .val (.long n2), .second, .val (.ref b198), .val (.long (n1 + n2)), .second, .val (.long (((lus f1 (0 : Int32) &&& (1 : Int64)) * n1) + ((lus f2 (0 : Int32) &&& (1 : Int64)) * n2))), .second, .val (.long (((lus f1 (1 : Int32) &&& (1 : Int64)) * n1) + ((lus f2 (1 : Int32) &&& (1 : Int64)) * n2))), .second, .unset, .unset, .unset, .unset, .unset, .unset, .unset, .unset, .unset, .unset] [(.int (2 : Int32)), (.long f2), (.long ((lus f1 (2 : Int32) &&& (1 : Int64)) * n1))]))
  refine Go.callS C X206 (W := 2) (argsL := [(.long f2), (.int (2 : Int32))]) (rest := [(.long ((lus f1 (2 : Int32) &&& (1 : Int64)) * n1))]) (wd 35 rfl) (wd 36 rfl) (wd 37 rfl) (wd 38 rfl) (by decide) (con_bit l Z a0 hw n0 h201 X206.size f2 (2 : Int32)) (by decide) (by decide) rfl (lenOf pd_4 rfl) (Nat.le_of_ble_eq_true rfl) rfl at_79 (by decide) (by decide) (fun T207 h207 v207 X207 hQ207 => ?_)
  obtain ⟨rfl, hh207⟩ := hQ207
  rw [hh207] at X207
  show Go p e below s n0 _ _ _ (T207.setTop (mkF m 82 #[.val (.long f1), .second, .val (.long n1), .second, .val (.long f2), .second, .val (.long n2), .second, .val (.ref b198), .val (.long (n1 + n2)), .second, .val (.long (((lus f1 (0 : Int32) &&& (1 : Int64)) * n1) + ((lus f2 (0 : Int32) &&& (1 : Int64)) * n2))), .second, .val (.long (((lus f1 (1 : Int32) &&& (1 : Int64)) * n1) + ((lus f2 (1 : Int32) &&& (1 : Int64)) * n2))), .second, .unset, .unset, .unset, .unset, .unset, .unset, .unset, .unset, .unset, .unset] [(.long (lus f2 (2 : Int32) &&& (1 : Int64))), (.long ((lus f1 (2 : Int32) &&& (1 : Int64)) * n1))]))
  refine Go.st (fun _ => XS.lload X207.here C.hx rfl (hb C.hby at_82) rfl) ?_
  show Go p e below s n0 _ _ _ (T207.setTop (mkF m 84 #[.val (.long f1), .second, .val (.long n1), .second, .val (.long f2), .second, .val (.long n2), .second, .val (.ref b198), .val (.long (n1 + n2)), .second, .val (.long (((lus f1 (0 : Int32) &&& (1 : Int64)) * n1) + ((lus f2 (0 : Int32) &&& (1 : Int64)) * n2))), .second, .val (.long (((lus f1 (1 : Int32) &&& (1 : Int64)) * n1) + ((lus f2 (1 : Int32) &&& (1 : Int64)) * n2))), .second, .unset, .unset, .unset, .unset, .unset, .unset, .unset, .unset, .unset, .unset] [(.long n2), (.long (lus f2 (2 : Int32) &&& (1 : Int64))), (.long ((lus f1 (2 : Int32) &&& (1 : Int64)) * n1))]))
  refine Go.st (fun _ => XS.lmul X207.here C.hx rfl (hb C.hby at_84) rfl) ?_
  show Go p e below s n0 _ _ _ (T207.setTop (mkF m 85 #[.val (.long f1), .second, .val (.long n1), .second, .val (.long f2), .second, .val (.long n2), .second, .val (.ref b198), .val (.long (n1 + n2)), .second, .val (.long (((lus f1 (0 : Int32) &&& (1 : Int64)) * n1) + ((lus f2 (0 : Int32) &&& (1 : Int64)) * n2))), .second, .val (.long (((lus f1 (1 : Int32) &&& (1 : Int64)) * n1) + ((lus f2 (1 : Int32) &&& (1 : Int64)) * n2))), .second, .unset, .unset, .unset, .unset, .unset, .unset, .unset, .unset, .unset, .unset] [(.long ((lus f2 (2 : Int32) &&& (1 : Int64)) * n2)), (.long ((lus f1 (2 : Int32) &&& (1 : Int64)) * n1))]))
  refine Go.st (fun _ => XS.ladd X207.here C.hx rfl (hb C.hby at_85) rfl) ?_
  show Go p e below s n0 _ _ _ (T207.setTop (mkF m 86 #[.val (.long f1), .second, .val (.long n1), .second, .val (.long f2), .second, .val (.long n2), .second, .val (.ref b198), .val (.long (n1 + n2)), .second, .val (.long (((lus f1 (0 : Int32) &&& (1 : Int64)) * n1) + ((lus f2 (0 : Int32) &&& (1 : Int64)) * n2))), .second, .val (.long (((lus f1 (1 : Int32) &&& (1 : Int64)) * n1) + ((lus f2 (1 : Int32) &&& (1 : Int64)) * n2))), .second, .unset, .unset, .unset, .unset, .unset, .unset, .unset, .unset, .unset, .unset] [(.long (((lus f1 (2 : Int32) &&& (1 : Int64)) * n1) + ((lus f2 (2 : Int32) &&& (1 : Int64)) * n2)))]))
  refine Go.st (fun _ => XS.lstore X207.here C.hx rfl (hb C.hby at_86) rfl (l' := #[.val (.long f1), .second, .val (.long n1), .second, .val (.long f2), .second, .val (.long n2), .second, .val (.ref b198), .val (.long (n1 + n2)), .second, .val (.long (((lus f1 (0 : Int32) &&& (1 : Int64)) * n1) + ((lus f2 (0 : Int32) &&& (1 : Int64)) * n2))), .second, .val (.long (((lus f1 (1 : Int32) &&& (1 : Int64)) * n1) + ((lus f2 (1 : Int32) &&& (1 : Int64)) * n2))), .second, .val (.long (((lus f1 (2 : Int32) &&& (1 : Int64)) * n1) + ((lus f2 (2 : Int32) &&& (1 : Int64)) * n2))), .second, .unset, .unset, .unset, .unset, .unset, .unset, .unset, .unset]) rfl) ?_
  show Go p e below s n0 _ _ _ (T207.setTop (mkF m 88 #[.val (.long f1), .second, .val (.long n1), .second, .val (.long f2), .second, .val (.long n2), .second, .val (.ref b198), .val (.long (n1 + n2)), .second, .val (.long (((lus f1 (0 : Int32) &&& (1 : Int64)) * n1) + ((lus f2 (0 : Int32) &&& (1 : Int64)) * n2))), .second, .val (.long (((lus f1 (1 : Int32) &&& (1 : Int64)) * n1) + ((lus f2 (1 : Int32) &&& (1 : Int64)) * n2))), .second, .val (.long (((lus f1 (2 : Int32) &&& (1 : Int64)) * n1) + ((lus f2 (2 : Int32) &&& (1 : Int64)) * n2))), .second, .unset, .unset, .unset, .unset, .unset, .unset, .unset, .unset] []))
  refine Go.st (fun _ => XS.lloadN X207.here C.hx rfl (hb C.hby at_88) rfl) ?_
  show Go p e below s n0 _ _ _ (T207.setTop (mkF m 89 #[.val (.long f1), .second, .val (.long n1), .second, .val (.long f2), .second, .val (.long n2), .second, .val (.ref b198), .val (.long (n1 + n2)), .second, .val (.long (((lus f1 (0 : Int32) &&& (1 : Int64)) * n1) + ((lus f2 (0 : Int32) &&& (1 : Int64)) * n2))), .second, .val (.long (((lus f1 (1 : Int32) &&& (1 : Int64)) * n1) + ((lus f2 (1 : Int32) &&& (1 : Int64)) * n2))), .second, .val (.long (((lus f1 (2 : Int32) &&& (1 : Int64)) * n1) + ((lus f2 (2 : Int32) &&& (1 : Int64)) * n2))), .second, .unset, .unset, .unset, .unset, .unset, .unset, .unset, .unset] [(.long f1)]))
  refine Go.st (fun _ => XS.iconst X207.here C.hx rfl (hb C.hby at_89)) ?_
  show Go p e below s n0 _ _ _ (T207.setTop (mkF m 90 #[.val (.long f1), .second, .val (.long n1), .second, .val (.long f2), .second, .val (.long n2), .second, .val (.ref b198), .val (.long (n1 + n2)), .second, .val (.long (((lus f1 (0 : Int32) &&& (1 : Int64)) * n1) + ((lus f2 (0 : Int32) &&& (1 : Int64)) * n2))), .second, .val (.long (((lus f1 (1 : Int32) &&& (1 : Int64)) * n1) + ((lus f2 (1 : Int32) &&& (1 : Int64)) * n2))), .second, .val (.long (((lus f1 (2 : Int32) &&& (1 : Int64)) * n1) + ((lus f2 (2 : Int32) &&& (1 : Int64)) * n2))), .second, .unset, .unset, .unset, .unset, .unset, .unset, .unset, .unset] [(.int (3 : Int32)), (.long f1)]))
  refine Go.callS C X207 (W := 0) (argsL := [(.long f1), (.int (3 : Int32))]) (rest := []) (wd 35 rfl) (wd 36 rfl) (wd 37 rfl) (wd 38 rfl) (by decide) (con_bit l Z a0 hw n0 h201 X207.size f1 (3 : Int32)) (by decide) (by decide) rfl (lenOf pd_4 rfl) (Nat.le_of_ble_eq_true rfl) rfl at_90 (by decide) (by decide) (fun T208 h208 v208 X208 hQ208 => ?_)
  obtain ⟨rfl, hh208⟩ := hQ208
  rw [hh208] at X208
  show Go p e below s n0 _ _ _ (T208.setTop (mkF m 93 #[.val (.long f1), .second, .val (.long n1), .second, .val (.long f2), .second, .val (.long n2), .second, .val (.ref b198), .val (.long (n1 + n2)), .second, .val (.long (((lus f1 (0 : Int32) &&& (1 : Int64)) * n1) + ((lus f2 (0 : Int32) &&& (1 : Int64)) * n2))), .second, .val (.long (((lus f1 (1 : Int32) &&& (1 : Int64)) * n1) + ((lus f2 (1 : Int32) &&& (1 : Int64)) * n2))), .second, .val (.long (((lus f1 (2 : Int32) &&& (1 : Int64)) * n1) + ((lus f2 (2 : Int32) &&& (1 : Int64)) * n2))), .second, .unset, .unset, .unset, .unset, .unset, .unset, .unset, .unset] [(.long (lus f1 (3 : Int32) &&& (1 : Int64)))]))
  refine Go.st (fun _ => XS.lloadN X208.here C.hx rfl (hb C.hby at_93) rfl) ?_
  show Go p e below s n0 _ _ _ (T208.setTop (mkF m 94 #[.val (.long f1), .second, .val (.long n1), .second, .val (.long f2), .second, .val (.long n2), .second, .val (.ref b198), .val (.long (n1 + n2)), .second, .val (.long (((lus f1 (0 : Int32) &&& (1 : Int64)) * n1) + ((lus f2 (0 : Int32) &&& (1 : Int64)) * n2))), .second, .val (.long (((lus f1 (1 : Int32) &&& (1 : Int64)) * n1) + ((lus f2 (1 : Int32) &&& (1 : Int64)) * n2))), .second, .val (.long (((lus f1 (2 : Int32) &&& (1 : Int64)) * n1) + ((lus f2 (2 : Int32) &&& (1 : Int64)) * n2))), .second, .unset, .unset, .unset, .unset, .unset, .unset, .unset, .unset] [(.long n1), (.long (lus f1 (3 : Int32) &&& (1 : Int64)))]))
  refine Go.st (fun _ => XS.lmul X208.here C.hx rfl (hb C.hby at_94) rfl) ?_
  show Go p e below s n0 _ _ _ (T208.setTop (mkF m 95 #[.val (.long f1), .second, .val (.long n1), .second, .val (.long f2), .second, .val (.long n2), .second, .val (.ref b198), .val (.long (n1 + n2)), .second, .val (.long (((lus f1 (0 : Int32) &&& (1 : Int64)) * n1) + ((lus f2 (0 : Int32) &&& (1 : Int64)) * n2))), .second, .val (.long (((lus f1 (1 : Int32) &&& (1 : Int64)) * n1) + ((lus f2 (1 : Int32) &&& (1 : Int64)) * n2))), .second, .val (.long (((lus f1 (2 : Int32) &&& (1 : Int64)) * n1) + ((lus f2 (2 : Int32) &&& (1 : Int64)) * n2))), .second, .unset, .unset, .unset, .unset, .unset, .unset, .unset, .unset] [(.long ((lus f1 (3 : Int32) &&& (1 : Int64)) * n1))]))
  refine Go.st (fun _ => XS.lload X208.here C.hx rfl (hb C.hby at_95) rfl) ?_
  show Go p e below s n0 _ _ _ (T208.setTop (mkF m 97 #[.val (.long f1), .second, .val (.long n1), .second, .val (.long f2), .second, .val (.long n2), .second, .val (.ref b198), .val (.long (n1 + n2)), .second, .val (.long (((lus f1 (0 : Int32) &&& (1 : Int64)) * n1) + ((lus f2 (0 : Int32) &&& (1 : Int64)) * n2))), .second, .val (.long (((lus f1 (1 : Int32) &&& (1 : Int64)) * n1) + ((lus f2 (1 : Int32) &&& (1 : Int64)) * n2))), .second, .val (.long (((lus f1 (2 : Int32) &&& (1 : Int64)) * n1) + ((lus f2 (2 : Int32) &&& (1 : Int64)) * n2))), .second, .unset, .unset, .unset, .unset, .unset, .unset, .unset, .unset] [(.long f2), (.long ((lus f1 (3 : Int32) &&& (1 : Int64)) * n1))]))
  refine Go.st (fun _ => XS.iconst X208.here C.hx rfl (hb C.hby at_97)) ?_
  show Go p e below s n0 _ _ _ (T208.setTop (mkF m 98 #[.val (.long f1), .second, .val (.long n1), .second, .val (.long f2), .second, .val (.long n2), .second, .val (.ref b198), .val (.long (n1 + n2)), .second, .val (.long (((lus f1 (0 : Int32) &&& (1 : Int64)) * n1) + ((lus f2 (0 : Int32) &&& (1 : Int64)) * n2))), .second, .val (.long (((lus f1 (1 : Int32) &&& (1 : Int64)) * n1) + ((lus f2 (1 : Int32) &&& (1 : Int64)) * n2))), .second, .val (.long (((lus f1 (2 : Int32) &&& (1 : Int64)) * n1) + ((lus f2 (2 : Int32) &&& (1 : Int64)) * n2))), .second, .unset, .unset, .unset, .unset, .unset, .unset, .unset, .unset] [(.int (3 : Int32)), (.long f2), (.long ((lus f1 (3 : Int32) &&& (1 : Int64)) * n1))]))
  refine Go.callS C X208 (W := 2) (argsL := [(.long f2), (.int (3 : Int32))]) (rest := [(.long ((lus f1 (3 : Int32) &&& (1 : Int64)) * n1))]) (wd 35 rfl) (wd 36 rfl) (wd 37 rfl) (wd 38 rfl) (by decide) (con_bit l Z a0 hw n0 h201 X208.size f2 (3 : Int32)) (by decide) (by decide) rfl (lenOf pd_4 rfl) (Nat.le_of_ble_eq_true rfl) rfl at_98 (by decide) (by decide) (fun T209 h209 v209 X209 hQ209 => ?_)
  obtain ⟨rfl, hh209⟩ := hQ209
  rw [hh209] at X209
  show Go p e below s n0 _ _ _ (T209.setTop (mkF m 101 #[.val (.long f1), .second, .val (.long n1), .second, .val (.long f2), .second, .val (.long n2), .second, .val (.ref b198), .val (.long (n1 + n2)), .second, .val (.long (((lus f1 (0 : Int32) &&& (1 : Int64)) * n1) + ((lus f2 (0 : Int32) &&& (1 : Int64)) * n2))), .second, .val (.long (((lus f1 (1 : Int32) &&& (1 : Int64)) * n1) + ((lus f2 (1 : Int32) &&& (1 : Int64)) * n2))), .second, .val (.long (((lus f1 (2 : Int32) &&& (1 : Int64)) * n1) + ((lus f2 (2 : Int32) &&& (1 : Int64)) * n2))), .second, .unset, .unset, .unset, .unset, .unset, .unset, .unset, .unset] [(.long (lus f2 (3 : Int32) &&& (1 : Int64))), (.long ((lus f1 (3 : Int32) &&& (1 : Int64)) * n1))]))
  refine Go.st (fun _ => XS.lload X209.here C.hx rfl (hb C.hby at_101) rfl) ?_
  show Go p e below s n0 _ _ _ (T209.setTop (mkF m 103 #[.val (.long f1), .second, .val (.long n1), .second, .val (.long f2), .second, .val (.long n2), .second, .val (.ref b198), .val (.long (n1 + n2)), .second, .val (.long (((lus f1 (0 : Int32) &&& (1 : Int64)) * n1) + ((lus f2 (0 : Int32) &&& (1 : Int64)) * n2))), .second, .val (.long (((lus f1 (1 : Int32) &&& (1 : Int64)) * n1) + ((lus f2 (1 : Int32) &&& (1 : Int64)) * n2))), .second, .val (.long (((lus f1 (2 : Int32) &&& (1 : Int64)) * n1) + ((lus f2 (2 : Int32) &&& (1 : Int64)) * n2))), .second, .unset, .unset, .unset, .unset, .unset, .unset, .unset, .unset] [(.long n2), (.long (lus f2 (3 : Int32) &&& (1 : Int64))), (.long ((lus f1 (3 : Int32) &&& (1 : Int64)) * n1))]))
  refine Go.st (fun _ => XS.lmul X209.here C.hx rfl (hb C.hby at_103) rfl) ?_
  show Go p e below s n0 _ _ _ (T209.setTop (mkF m 104 #[.val (.long f1), .second, .val (.long n1), .second, .val (.long f2), .second, .val (.long n2), .second, .val (.ref b198), .val (.long (n1 + n2)), .second, .val (.long (((lus f1 (0 : Int32) &&& (1 : Int64)) * n1) + ((lus f2 (0 : Int32) &&& (1 : Int64)) * n2))), .second, .val (.long (((lus f1 (1 : Int32) &&& (1 : Int64)) * n1) + ((lus f2 (1 : Int32) &&& (1 : Int64)) * n2))), .second, .val (.long (((lus f1 (2 : Int32) &&& (1 : Int64)) * n1) + ((lus f2 (2 : Int32) &&& (1 : Int64)) * n2))), .second, .unset, .unset, .unset, .unset, .unset, .unset, .unset, .unset] [(.long ((lus f2 (3 : Int32) &&& (1 : Int64)) * n2)), (.long ((lus f1 (3 : Int32) &&& (1 : Int64)) * n1))]))
  refine Go.st (fun _ => XS.ladd X209.here C.hx rfl (hb C.hby at_104) rfl) ?_
  show Go p e below s n0 _ _ _ (T209.setTop (mkF m 105 #[.val (.long f1), .second, .val (.long n1), .second, .val (.long f2), .second, .val (.long n2), .second, .val (.ref b198), .val (.long (n1 + n2)), .second, .val (.long (((lus f1 (0 : Int32) &&& (1 : Int64)) * n1) + ((lus f2 (0 : Int32) &&& (1 : Int64)) * n2))), .second, .val (.long (((lus f1 (1 : Int32) &&& (1 : Int64)) * n1) + ((lus f2 (1 : Int32) &&& (1 : Int64)) * n2))), .second, .val (.long (((lus f1 (2 : Int32) &&& (1 : Int64)) * n1) + ((lus f2 (2 : Int32) &&& (1 : Int64)) * n2))), .second, .unset, .unset, .unset, .unset, .unset, .unset, .unset, .unset] [(.long (((lus f1 (3 : Int32) &&& (1 : Int64)) * n1) + ((lus f2 (3 : Int32) &&& (1 : Int64)) * n2)))]))
  refine Go.st (fun _ => XS.lstore X209.here C.hx rfl (hb C.hby at_105) rfl (l' := #[.val (.long f1), .second, .val (.long n1), .second, .val (.long f2), .second, .val (.long n2), .second, .val (.ref b198), .val (.long (n1 + n2)), .second, .val (.long (((lus f1 (0 : Int32) &&& (1 : Int64)) * n1) + ((lus f2 (0 : Int32) &&& (1 : Int64)) * n2))), .second, .val (.long (((lus f1 (1 : Int32) &&& (1 : Int64)) * n1) + ((lus f2 (1 : Int32) &&& (1 : Int64)) * n2))), .second, .val (.long (((lus f1 (2 : Int32) &&& (1 : Int64)) * n1) + ((lus f2 (2 : Int32) &&& (1 : Int64)) * n2))), .second, .val (.long (((lus f1 (3 : Int32) &&& (1 : Int64)) * n1) + ((lus f2 (3 : Int32) &&& (1 : Int64)) * n2))), .second, .unset, .unset, .unset, .unset, .unset, .unset]) rfl) ?_
  show Go p e below s n0 _ _ _ (T209.setTop (mkF m 107 #[.val (.long f1), .second, .val (.long n1), .second, .val (.long f2), .second, .val (.long n2), .second, .val (.ref b198), .val (.long (n1 + n2)), .second, .val (.long (((lus f1 (0 : Int32) &&& (1 : Int64)) * n1) + ((lus f2 (0 : Int32) &&& (1 : Int64)) * n2))), .second, .val (.long (((lus f1 (1 : Int32) &&& (1 : Int64)) * n1) + ((lus f2 (1 : Int32) &&& (1 : Int64)) * n2))), .second, .val (.long (((lus f1 (2 : Int32) &&& (1 : Int64)) * n1) + ((lus f2 (2 : Int32) &&& (1 : Int64)) * n2))), .second, .val (.long (((lus f1 (3 : Int32) &&& (1 : Int64)) * n1) + ((lus f2 (3 : Int32) &&& (1 : Int64)) * n2))), .second, .unset, .unset, .unset, .unset, .unset, .unset] []))
  refine Go.st (fun _ => XS.lloadN X209.here C.hx rfl (hb C.hby at_107) rfl) ?_
  show Go p e below s n0 _ _ _ (T209.setTop (mkF m 108 #[.val (.long f1), .second, .val (.long n1), .second, .val (.long f2), .second, .val (.long n2), .second, .val (.ref b198), .val (.long (n1 + n2)), .second, .val (.long (((lus f1 (0 : Int32) &&& (1 : Int64)) * n1) + ((lus f2 (0 : Int32) &&& (1 : Int64)) * n2))), .second, .val (.long (((lus f1 (1 : Int32) &&& (1 : Int64)) * n1) + ((lus f2 (1 : Int32) &&& (1 : Int64)) * n2))), .second, .val (.long (((lus f1 (2 : Int32) &&& (1 : Int64)) * n1) + ((lus f2 (2 : Int32) &&& (1 : Int64)) * n2))), .second, .val (.long (((lus f1 (3 : Int32) &&& (1 : Int64)) * n1) + ((lus f2 (3 : Int32) &&& (1 : Int64)) * n2))), .second, .unset, .unset, .unset, .unset, .unset, .unset] [(.long f1)]))
  refine Go.st (fun _ => XS.iconst X209.here C.hx rfl (hb C.hby at_108)) ?_
  show Go p e below s n0 _ _ _ (T209.setTop (mkF m 109 #[.val (.long f1), .second, .val (.long n1), .second, .val (.long f2), .second, .val (.long n2), .second, .val (.ref b198), .val (.long (n1 + n2)), .second, .val (.long (((lus f1 (0 : Int32) &&& (1 : Int64)) * n1) + ((lus f2 (0 : Int32) &&& (1 : Int64)) * n2))), .second, .val (.long (((lus f1 (1 : Int32) &&& (1 : Int64)) * n1) + ((lus f2 (1 : Int32) &&& (1 : Int64)) * n2))), .second, .val (.long (((lus f1 (2 : Int32) &&& (1 : Int64)) * n1) + ((lus f2 (2 : Int32) &&& (1 : Int64)) * n2))), .second, .val (.long (((lus f1 (3 : Int32) &&& (1 : Int64)) * n1) + ((lus f2 (3 : Int32) &&& (1 : Int64)) * n2))), .second, .unset, .unset, .unset, .unset, .unset, .unset] [(.int (4 : Int32)), (.long f1)]))
  refine Go.st (fun _ => XS.lushr X209.here C.hx rfl (hb C.hby at_109) rfl) ?_
  show Go p e below s n0 _ _ _ (T209.setTop (mkF m 110 #[.val (.long f1), .second, .val (.long n1), .second, .val (.long f2), .second, .val (.long n2), .second, .val (.ref b198), .val (.long (n1 + n2)), .second, .val (.long (((lus f1 (0 : Int32) &&& (1 : Int64)) * n1) + ((lus f2 (0 : Int32) &&& (1 : Int64)) * n2))), .second, .val (.long (((lus f1 (1 : Int32) &&& (1 : Int64)) * n1) + ((lus f2 (1 : Int32) &&& (1 : Int64)) * n2))), .second, .val (.long (((lus f1 (2 : Int32) &&& (1 : Int64)) * n1) + ((lus f2 (2 : Int32) &&& (1 : Int64)) * n2))), .second, .val (.long (((lus f1 (3 : Int32) &&& (1 : Int64)) * n1) + ((lus f2 (3 : Int32) &&& (1 : Int64)) * n2))), .second, .unset, .unset, .unset, .unset, .unset, .unset] [(.long (lus f1 (4 : Int32)))]))
  refine Go.st (fun _ => XS.lstore X209.here C.hx rfl (hb C.hby at_110) rfl (l' := #[.val (.long f1), .second, .val (.long n1), .second, .val (.long f2), .second, .val (.long n2), .second, .val (.ref b198), .val (.long (n1 + n2)), .second, .val (.long (((lus f1 (0 : Int32) &&& (1 : Int64)) * n1) + ((lus f2 (0 : Int32) &&& (1 : Int64)) * n2))), .second, .val (.long (((lus f1 (1 : Int32) &&& (1 : Int64)) * n1) + ((lus f2 (1 : Int32) &&& (1 : Int64)) * n2))), .second, .val (.long (((lus f1 (2 : Int32) &&& (1 : Int64)) * n1) + ((lus f2 (2 : Int32) &&& (1 : Int64)) * n2))), .second, .val (.long (((lus f1 (3 : Int32) &&& (1 : Int64)) * n1) + ((lus f2 (3 : Int32) &&& (1 : Int64)) * n2))), .second, .val (.long (lus f1 (4 : Int32))), .second, .unset, .unset, .unset, .unset]) rfl) ?_
  show Go p e below s n0 _ _ _ (T209.setTop (mkF m 112 #[.val (.long f1), .second, .val (.long n1), .second, .val (.long f2), .second, .val (.long n2), .second, .val (.ref b198), .val (.long (n1 + n2)), .second, .val (.long (((lus f1 (0 : Int32) &&& (1 : Int64)) * n1) + ((lus f2 (0 : Int32) &&& (1 : Int64)) * n2))), .second, .val (.long (((lus f1 (1 : Int32) &&& (1 : Int64)) * n1) + ((lus f2 (1 : Int32) &&& (1 : Int64)) * n2))), .second, .val (.long (((lus f1 (2 : Int32) &&& (1 : Int64)) * n1) + ((lus f2 (2 : Int32) &&& (1 : Int64)) * n2))), .second, .val (.long (((lus f1 (3 : Int32) &&& (1 : Int64)) * n1) + ((lus f2 (3 : Int32) &&& (1 : Int64)) * n2))), .second, .val (.long (lus f1 (4 : Int32))), .second, .unset, .unset, .unset, .unset] []))
  refine Go.st (fun _ => XS.lload X209.here C.hx rfl (hb C.hby at_112) rfl) ?_
  show Go p e below s n0 _ _ _ (T209.setTop (mkF m 114 #[.val (.long f1), .second, .val (.long n1), .second, .val (.long f2), .second, .val (.long n2), .second, .val (.ref b198), .val (.long (n1 + n2)), .second, .val (.long (((lus f1 (0 : Int32) &&& (1 : Int64)) * n1) + ((lus f2 (0 : Int32) &&& (1 : Int64)) * n2))), .second, .val (.long (((lus f1 (1 : Int32) &&& (1 : Int64)) * n1) + ((lus f2 (1 : Int32) &&& (1 : Int64)) * n2))), .second, .val (.long (((lus f1 (2 : Int32) &&& (1 : Int64)) * n1) + ((lus f2 (2 : Int32) &&& (1 : Int64)) * n2))), .second, .val (.long (((lus f1 (3 : Int32) &&& (1 : Int64)) * n1) + ((lus f2 (3 : Int32) &&& (1 : Int64)) * n2))), .second, .val (.long (lus f1 (4 : Int32))), .second, .unset, .unset, .unset, .unset] [(.long f2)]))
  refine Go.st (fun _ => XS.iconst X209.here C.hx rfl (hb C.hby at_114)) ?_
  show Go p e below s n0 _ _ _ (T209.setTop (mkF m 115 #[.val (.long f1), .second, .val (.long n1), .second, .val (.long f2), .second, .val (.long n2), .second, .val (.ref b198), .val (.long (n1 + n2)), .second, .val (.long (((lus f1 (0 : Int32) &&& (1 : Int64)) * n1) + ((lus f2 (0 : Int32) &&& (1 : Int64)) * n2))), .second, .val (.long (((lus f1 (1 : Int32) &&& (1 : Int64)) * n1) + ((lus f2 (1 : Int32) &&& (1 : Int64)) * n2))), .second, .val (.long (((lus f1 (2 : Int32) &&& (1 : Int64)) * n1) + ((lus f2 (2 : Int32) &&& (1 : Int64)) * n2))), .second, .val (.long (((lus f1 (3 : Int32) &&& (1 : Int64)) * n1) + ((lus f2 (3 : Int32) &&& (1 : Int64)) * n2))), .second, .val (.long (lus f1 (4 : Int32))), .second, .unset, .unset, .unset, .unset] [(.int (4 : Int32)), (.long f2)]))
  refine Go.st (fun _ => XS.lushr X209.here C.hx rfl (hb C.hby at_115) rfl) ?_
  show Go p e below s n0 _ _ _ (T209.setTop (mkF m 116 #[.val (.long f1), .second, .val (.long n1), .second, .val (.long f2), .second, .val (.long n2), .second, .val (.ref b198), .val (.long (n1 + n2)), .second, .val (.long (((lus f1 (0 : Int32) &&& (1 : Int64)) * n1) + ((lus f2 (0 : Int32) &&& (1 : Int64)) * n2))), .second, .val (.long (((lus f1 (1 : Int32) &&& (1 : Int64)) * n1) + ((lus f2 (1 : Int32) &&& (1 : Int64)) * n2))), .second, .val (.long (((lus f1 (2 : Int32) &&& (1 : Int64)) * n1) + ((lus f2 (2 : Int32) &&& (1 : Int64)) * n2))), .second, .val (.long (((lus f1 (3 : Int32) &&& (1 : Int64)) * n1) + ((lus f2 (3 : Int32) &&& (1 : Int64)) * n2))), .second, .val (.long (lus f1 (4 : Int32))), .second, .unset, .unset, .unset, .unset] [(.long (lus f2 (4 : Int32)))]))
  refine Go.st (fun _ => XS.lstore X209.here C.hx rfl (hb C.hby at_116) rfl (l' := #[.val (.long f1), .second, .val (.long n1), .second, .val (.long f2), .second, .val (.long n2), .second, .val (.ref b198), .val (.long (n1 + n2)), .second, .val (.long (((lus f1 (0 : Int32) &&& (1 : Int64)) * n1) + ((lus f2 (0 : Int32) &&& (1 : Int64)) * n2))), .second, .val (.long (((lus f1 (1 : Int32) &&& (1 : Int64)) * n1) + ((lus f2 (1 : Int32) &&& (1 : Int64)) * n2))), .second, .val (.long (((lus f1 (2 : Int32) &&& (1 : Int64)) * n1) + ((lus f2 (2 : Int32) &&& (1 : Int64)) * n2))), .second, .val (.long (((lus f1 (3 : Int32) &&& (1 : Int64)) * n1) + ((lus f2 (3 : Int32) &&& (1 : Int64)) * n2))), .second, .val (.long (lus f1 (4 : Int32))), .second, .val (.long (lus f2 (4 : Int32))), .second, .unset, .unset]) rfl) ?_
  show Go p e below s n0 _ _ _ (T209.setTop (mkF m 118 #[.val (.long f1), .second, .val (.long n1), .second, .val (.long f2), .second, .val (.long n2), .second, .val (.ref b198), .val (.long (n1 + n2)), .second, .val (.long (((lus f1 (0 : Int32) &&& (1 : Int64)) * n1) + ((lus f2 (0 : Int32) &&& (1 : Int64)) * n2))), .second, .val (.long (((lus f1 (1 : Int32) &&& (1 : Int64)) * n1) + ((lus f2 (1 : Int32) &&& (1 : Int64)) * n2))), .second, .val (.long (((lus f1 (2 : Int32) &&& (1 : Int64)) * n1) + ((lus f2 (2 : Int32) &&& (1 : Int64)) * n2))), .second, .val (.long (((lus f1 (3 : Int32) &&& (1 : Int64)) * n1) + ((lus f2 (3 : Int32) &&& (1 : Int64)) * n2))), .second, .val (.long (lus f1 (4 : Int32))), .second, .val (.long (lus f2 (4 : Int32))), .second, .unset, .unset] []))
  refine Go.st (fun _ => XS.lload X209.here C.hx rfl (hb C.hby at_118) rfl) ?_
  show Go p e below s n0 _ _ _ (T209.setTop (mkF m 120 #[.val (.long f1), .second, .val (.long n1), .second, .val (.long f2), .second, .val (.long n2), .second, .val (.ref b198), .val (.long (n1 + n2)), .second, .val (.long (((lus f1 (0 : Int32) &&& (1 : Int64)) * n1) + ((lus f2 (0 : Int32) &&& (1 : Int64)) * n2))), .second, .val (.long (((lus f1 (1 : Int32) &&& (1 : Int64)) * n1) + ((lus f2 (1 : Int32) &&& (1 : Int64)) * n2))), .second, .val (.long (((lus f1 (2 : Int32) &&& (1 : Int64)) * n1) + ((lus f2 (2 : Int32) &&& (1 : Int64)) * n2))), .second, .val (.long (((lus f1 (3 : Int32) &&& (1 : Int64)) * n1) + ((lus f2 (3 : Int32) &&& (1 : Int64)) * n2))), .second, .val (.long (lus f1 (4 : Int32))), .second, .val (.long (lus f2 (4 : Int32))), .second, .unset, .unset] [(.long (lus f1 (4 : Int32)))]))
  refine Go.st (fun _ => XS.lloadN X209.here C.hx rfl (hb C.hby at_120) rfl) ?_
  show Go p e below s n0 _ _ _ (T209.setTop (mkF m 121 #[.val (.long f1), .second, .val (.long n1), .second, .val (.long f2), .second, .val (.long n2), .second, .val (.ref b198), .val (.long (n1 + n2)), .second, .val (.long (((lus f1 (0 : Int32) &&& (1 : Int64)) * n1) + ((lus f2 (0 : Int32) &&& (1 : Int64)) * n2))), .second, .val (.long (((lus f1 (1 : Int32) &&& (1 : Int64)) * n1) + ((lus f2 (1 : Int32) &&& (1 : Int64)) * n2))), .second, .val (.long (((lus f1 (2 : Int32) &&& (1 : Int64)) * n1) + ((lus f2 (2 : Int32) &&& (1 : Int64)) * n2))), .second, .val (.long (((lus f1 (3 : Int32) &&& (1 : Int64)) * n1) + ((lus f2 (3 : Int32) &&& (1 : Int64)) * n2))), .second, .val (.long (lus f1 (4 : Int32))), .second, .val (.long (lus f2 (4 : Int32))), .second, .unset, .unset] [(.long n1), (.long (lus f1 (4 : Int32)))]))
  refine Go.st (fun _ => XS.lmul X209.here C.hx rfl (hb C.hby at_121) rfl) ?_
  show Go p e below s n0 _ _ _ (T209.setTop (mkF m 122 #[.val (.long f1), .second, .val (.long n1), .second, .val (.long f2), .second, .val (.long n2), .second, .val (.ref b198), .val (.long (n1 + n2)), .second, .val (.long (((lus f1 (0 : Int32) &&& (1 : Int64)) * n1) + ((lus f2 (0 : Int32) &&& (1 : Int64)) * n2))), .second, .val (.long (((lus f1 (1 : Int32) &&& (1 : Int64)) * n1) + ((lus f2 (1 : Int32) &&& (1 : Int64)) * n2))), .second, .val (.long (((lus f1 (2 : Int32) &&& (1 : Int64)) * n1) + ((lus f2 (2 : Int32) &&& (1 : Int64)) * n2))), .second, .val (.long (((lus f1 (3 : Int32) &&& (1 : Int64)) * n1) + ((lus f2 (3 : Int32) &&& (1 : Int64)) * n2))), .second, .val (.long (lus f1 (4 : Int32))), .second, .val (.long (lus f2 (4 : Int32))), .second, .unset, .unset] [(.long ((lus f1 (4 : Int32)) * n1))]))
  refine Go.st (fun _ => XS.lload X209.here C.hx rfl (hb C.hby at_122) rfl) ?_
  show Go p e below s n0 _ _ _ (T209.setTop (mkF m 124 #[.val (.long f1), .second, .val (.long n1), .second, .val (.long f2), .second, .val (.long n2), .second, .val (.ref b198), .val (.long (n1 + n2)), .second, .val (.long (((lus f1 (0 : Int32) &&& (1 : Int64)) * n1) + ((lus f2 (0 : Int32) &&& (1 : Int64)) * n2))), .second, .val (.long (((lus f1 (1 : Int32) &&& (1 : Int64)) * n1) + ((lus f2 (1 : Int32) &&& (1 : Int64)) * n2))), .second, .val (.long (((lus f1 (2 : Int32) &&& (1 : Int64)) * n1) + ((lus f2 (2 : Int32) &&& (1 : Int64)) * n2))), .second, .val (.long (((lus f1 (3 : Int32) &&& (1 : Int64)) * n1) + ((lus f2 (3 : Int32) &&& (1 : Int64)) * n2))), .second, .val (.long (lus f1 (4 : Int32))), .second, .val (.long (lus f2 (4 : Int32))), .second, .unset, .unset] [(.long (lus f2 (4 : Int32))), (.long ((lus f1 (4 : Int32)) * n1))]))
  refine Go.st (fun _ => XS.lload X209.here C.hx rfl (hb C.hby at_124) rfl) ?_
  show Go p e below s n0 _ _ _ (T209.setTop (mkF m 126 #[.val (.long f1), .second, .val (.long n1), .second, .val (.long f2), .second, .val (.long n2), .second, .val (.ref b198), .val (.long (n1 + n2)), .second, .val (.long (((lus f1 (0 : Int32) &&& (1 : Int64)) * n1) + ((lus f2 (0 : Int32) &&& (1 : Int64)) * n2))), .second, .val (.long (((lus f1 (1 : Int32) &&& (1 : Int64)) * n1) + ((lus f2 (1 : Int32) &&& (1 : Int64)) * n2))), .second, .val (.long (((lus f1 (2 : Int32) &&& (1 : Int64)) * n1) + ((lus f2 (2 : Int32) &&& (1 : Int64)) * n2))), .second, .val (.long (((lus f1 (3 : Int32) &&& (1 : Int64)) * n1) + ((lus f2 (3 : Int32) &&& (1 : Int64)) * n2))), .second, .val (.long (lus f1 (4 : Int32))), .second, .val (.long (lus f2 (4 : Int32))), .second, .unset, .unset] [(.long n2), (.long (lus f2 (4 : Int32))), (.long ((lus f1 (4 : Int32)) * n1))]))
  refine Go.st (fun _ => XS.lmul X209.here C.hx rfl (hb C.hby at_126) rfl) ?_
  show Go p e below s n0 _ _ _ (T209.setTop (mkF m 127 #[.val (.long f1), .second, .val (.long n1), .second, .val (.long f2), .second, .val (.long n2), .second, .val (.ref b198), .val (.long (n1 + n2)), .second, .val (.long (((lus f1 (0 : Int32) &&& (1 : Int64)) * n1) + ((lus f2 (0 : Int32) &&& (1 : Int64)) * n2))), .second, .val (.long (((lus f1 (1 : Int32) &&& (1 : Int64)) * n1) + ((lus f2 (1 : Int32) &&& (1 : Int64)) * n2))), .second, .val (.long (((lus f1 (2 : Int32) &&& (1 : Int64)) * n1) + ((lus f2 (2 : Int32) &&& (1 : Int64)) * n2))), .second, .val (.long (((lus f1 (3 : Int32) &&& (1 : Int64)) * n1) + ((lus f2 (3 : Int32) &&& (1 : Int64)) * n2))), .second, .val (.long (lus f1 (4 : Int32))), .second, .val (.long (lus f2 (4 : Int32))), .second, .unset, .unset] [(.long ((lus f2 (4 : Int32)) * n2)), (.long ((lus f1 (4 : Int32)) * n1))]))
  refine Go.st (fun _ => XS.ladd X209.here C.hx rfl (hb C.hby at_127) rfl) ?_
  show Go p e below s n0 _ _ _ (T209.setTop (mkF m 128 #[.val (.long f1), .second, .val (.long n1), .second, .val (.long f2), .second, .val (.long n2), .second, .val (.ref b198), .val (.long (n1 + n2)), .second, .val (.long (((lus f1 (0 : Int32) &&& (1 : Int64)) * n1) + ((lus f2 (0 : Int32) &&& (1 : Int64)) * n2))), .second, .val (.long (((lus f1 (1 : Int32) &&& (1 : Int64)) * n1) + ((lus f2 (1 : Int32) &&& (1 : Int64)) * n2))), .second, .val (.long (((lus f1 (2 : Int32) &&& (1 : Int64)) * n1) + ((lus f2 (2 : Int32) &&& (1 : Int64)) * n2))), .second, .val (.long (((lus f1 (3 : Int32) &&& (1 : Int64)) * n1) + ((lus f2 (3 : Int32) &&& (1 : Int64)) * n2))), .second, .val (.long (lus f1 (4 : Int32))), .second, .val (.long (lus f2 (4 : Int32))), .second, .unset, .unset] [(.long (((lus f1 (4 : Int32)) * n1) + ((lus f2 (4 : Int32)) * n2)))]))
  refine Go.st (fun _ => XS.lstore X209.here C.hx rfl (hb C.hby at_128) rfl (l' := #[.val (.long f1), .second, .val (.long n1), .second, .val (.long f2), .second, .val (.long n2), .second, .val (.ref b198), .val (.long (n1 + n2)), .second, .val (.long (((lus f1 (0 : Int32) &&& (1 : Int64)) * n1) + ((lus f2 (0 : Int32) &&& (1 : Int64)) * n2))), .second, .val (.long (((lus f1 (1 : Int32) &&& (1 : Int64)) * n1) + ((lus f2 (1 : Int32) &&& (1 : Int64)) * n2))), .second, .val (.long (((lus f1 (2 : Int32) &&& (1 : Int64)) * n1) + ((lus f2 (2 : Int32) &&& (1 : Int64)) * n2))), .second, .val (.long (((lus f1 (3 : Int32) &&& (1 : Int64)) * n1) + ((lus f2 (3 : Int32) &&& (1 : Int64)) * n2))), .second, .val (.long (lus f1 (4 : Int32))), .second, .val (.long (lus f2 (4 : Int32))), .second, .val (.long (((lus f1 (4 : Int32)) * n1) + ((lus f2 (4 : Int32)) * n2))), .second]) rfl) ?_
  show Go p e below s n0 _ _ _ (T209.setTop (mkF m 130 #[.val (.long f1), .second, .val (.long n1), .second, .val (.long f2), .second, .val (.long n2), .second, .val (.ref b198), .val (.long (n1 + n2)), .second, .val (.long (((lus f1 (0 : Int32) &&& (1 : Int64)) * n1) + ((lus f2 (0 : Int32) &&& (1 : Int64)) * n2))), .second, .val (.long (((lus f1 (1 : Int32) &&& (1 : Int64)) * n1) + ((lus f2 (1 : Int32) &&& (1 : Int64)) * n2))), .second, .val (.long (((lus f1 (2 : Int32) &&& (1 : Int64)) * n1) + ((lus f2 (2 : Int32) &&& (1 : Int64)) * n2))), .second, .val (.long (((lus f1 (3 : Int32) &&& (1 : Int64)) * n1) + ((lus f2 (3 : Int32) &&& (1 : Int64)) * n2))), .second, .val (.long (lus f1 (4 : Int32))), .second, .val (.long (lus f2 (4 : Int32))), .second, .val (.long (((lus f1 (4 : Int32)) * n1) + ((lus f2 (4 : Int32)) * n2))), .second] []))
  refine Go.st (fun _ => XS.aload X209.here C.hx rfl (hb C.hby at_130) rfl rfl) ?_
  show Go p e below s n0 _ _ _ (T209.setTop (mkF m 132 #[.val (.long f1), .second, .val (.long n1), .second, .val (.long f2), .second, .val (.long n2), .second, .val (.ref b198), .val (.long (n1 + n2)), .second, .val (.long (((lus f1 (0 : Int32) &&& (1 : Int64)) * n1) + ((lus f2 (0 : Int32) &&& (1 : Int64)) * n2))), .second, .val (.long (((lus f1 (1 : Int32) &&& (1 : Int64)) * n1) + ((lus f2 (1 : Int32) &&& (1 : Int64)) * n2))), .second, .val (.long (((lus f1 (2 : Int32) &&& (1 : Int64)) * n1) + ((lus f2 (2 : Int32) &&& (1 : Int64)) * n2))), .second, .val (.long (((lus f1 (3 : Int32) &&& (1 : Int64)) * n1) + ((lus f2 (3 : Int32) &&& (1 : Int64)) * n2))), .second, .val (.long (lus f1 (4 : Int32))), .second, .val (.long (lus f2 (4 : Int32))), .second, .val (.long (((lus f1 (4 : Int32)) * n1) + ((lus f2 (4 : Int32)) * n2))), .second] [(.ref b198)]))
  refine Go.callV C X209 (W := 0) (argsL := []) (rest := []) (a := b198) E201 (wd 39 rfl) (wd 40 rfl) (wd 42 rfl) (wd 41 rfl) (wd 2 rfl) (wd 43 rfl) (by decide) rfl (con_values l Z a0 hw n0 h201 X209.size b198 (((0 : Int64) + n1) + n2) G0_201) (by decide) (by decide) rfl (lenOf pd_5 rfl) (Nat.le_of_ble_eq_true rfl) rfl at_132 (by decide) (by decide) (fun T210 h210 v210 X210 hQ210 => ?_)
  obtain ⟨rfl, hh210⟩ := hQ210
  rw [hh210] at X210
  show Go p e below s n0 _ _ _ (T210.setTop (mkF m 135 #[.val (.long f1), .second, .val (.long n1), .second, .val (.long f2), .second, .val (.long n2), .second, .val (.ref b198), .val (.long (n1 + n2)), .second, .val (.long (((lus f1 (0 : Int32) &&& (1 : Int64)) * n1) + ((lus f2 (0 : Int32) &&& (1 : Int64)) * n2))), .second, .val (.long (((lus f1 (1 : Int32) &&& (1 : Int64)) * n1) + ((lus f2 (1 : Int32) &&& (1 : Int64)) * n2))), .second, .val (.long (((lus f1 (2 : Int32) &&& (1 : Int64)) * n1) + ((lus f2 (2 : Int32) &&& (1 : Int64)) * n2))), .second, .val (.long (((lus f1 (3 : Int32) &&& (1 : Int64)) * n1) + ((lus f2 (3 : Int32) &&& (1 : Int64)) * n2))), .second, .val (.long (lus f1 (4 : Int32))), .second, .val (.long (lus f2 (4 : Int32))), .second, .val (.long (((lus f1 (4 : Int32)) * n1) + ((lus f2 (4 : Int32)) * n2))), .second] [(.long (((0 : Int64) + n1) + n2))]))
  refine Go.st (fun _ => XS.lload X210.here C.hx rfl (hb C.hby at_135) rfl) ?_
  show Go p e below s n0 _ _ _ (T210.setTop (mkF m 137 #[.val (.long f1), .second, .val (.long n1), .second, .val (.long f2), .second, .val (.long n2), .second, .val (.ref b198), .val (.long (n1 + n2)), .second, .val (.long (((lus f1 (0 : Int32) &&& (1 : Int64)) * n1) + ((lus f2 (0 : Int32) &&& (1 : Int64)) * n2))), .second, .val (.long (((lus f1 (1 : Int32) &&& (1 : Int64)) * n1) + ((lus f2 (1 : Int32) &&& (1 : Int64)) * n2))), .second, .val (.long (((lus f1 (2 : Int32) &&& (1 : Int64)) * n1) + ((lus f2 (2 : Int32) &&& (1 : Int64)) * n2))), .second, .val (.long (((lus f1 (3 : Int32) &&& (1 : Int64)) * n1) + ((lus f2 (3 : Int32) &&& (1 : Int64)) * n2))), .second, .val (.long (lus f1 (4 : Int32))), .second, .val (.long (lus f2 (4 : Int32))), .second, .val (.long (((lus f1 (4 : Int32)) * n1) + ((lus f2 (4 : Int32)) * n2))), .second] [(.long (n1 + n2)), (.long (((0 : Int64) + n1) + n2))]))
  refine Go.st (fun _ => XS.lcmp X210.here C.hx rfl (hb C.hby at_137) rfl) ?_
  show Go p e below s n0 _ _ _ (T210.setTop (mkF m 138 #[.val (.long f1), .second, .val (.long n1), .second, .val (.long f2), .second, .val (.long n2), .second, .val (.ref b198), .val (.long (n1 + n2)), .second, .val (.long (((lus f1 (0 : Int32) &&& (1 : Int64)) * n1) + ((lus f2 (0 : Int32) &&& (1 : Int64)) * n2))), .second, .val (.long (((lus f1 (1 : Int32) &&& (1 : Int64)) * n1) + ((lus f2 (1 : Int32) &&& (1 : Int64)) * n2))), .second, .val (.long (((lus f1 (2 : Int32) &&& (1 : Int64)) * n1) + ((lus f2 (2 : Int32) &&& (1 : Int64)) * n2))), .second, .val (.long (((lus f1 (3 : Int32) &&& (1 : Int64)) * n1) + ((lus f2 (3 : Int32) &&& (1 : Int64)) * n2))), .second, .val (.long (lus f1 (4 : Int32))), .second, .val (.long (lus f2 (4 : Int32))), .second, .val (.long (((lus f1 (4 : Int32)) * n1) + ((lus f2 (4 : Int32)) * n2))), .second] [(.int (lcmpW (((0 : Int64) + n1) + n2) (n1 + n2)))]))
  refine Go.lif_ne C X210 (pc' := 208) at_138 (by decide) (by decide) (fun hc => by first | exact absurd hc (m_values n1 n2) | exact absurd (m_values n1 n2) hc) (fun _ => ?_)
  show Go p e below s n0 _ _ _ (T210.setTop (mkF m 141 #[.val (.long f1), .second, .val (.long n1), .second, .val (.long f2), .second, .val (.long n2), .second, .val (.ref b198), .val (.long (n1 + n2)), .second, .val (.long (((lus f1 (0 : Int32) &&& (1 : Int64)) * n1) + ((lus f2 (0 : Int32) &&& (1 : Int64)) * n2))), .second, .val (.long (((lus f1 (1 : Int32) &&& (1 : Int64)) * n1) + ((lus f2 (1 : Int32) &&& (1 : Int64)) * n2))), .second, .val (.long (((lus f1 (2 : Int32) &&& (1 : Int64)) * n1) + ((lus f2 (2 : Int32) &&& (1 : Int64)) * n2))), .second, .val (.long (((lus f1 (3 : Int32) &&& (1 : Int64)) * n1) + ((lus f2 (3 : Int32) &&& (1 : Int64)) * n2))), .second, .val (.long (lus f1 (4 : Int32))), .second, .val (.long (lus f2 (4 : Int32))), .second, .val (.long (((lus f1 (4 : Int32)) * n1) + ((lus f2 (4 : Int32)) * n2))), .second] []))
  refine Go.st (fun _ => XS.aload X210.here C.hx rfl (hb C.hby at_141) rfl rfl) ?_
  show Go p e below s n0 _ _ _ (T210.setTop (mkF m 143 #[.val (.long f1), .second, .val (.long n1), .second, .val (.long f2), .second, .val (.long n2), .second, .val (.ref b198), .val (.long (n1 + n2)), .second, .val (.long (((lus f1 (0 : Int32) &&& (1 : Int64)) * n1) + ((lus f2 (0 : Int32) &&& (1 : Int64)) * n2))), .second, .val (.long (((lus f1 (1 : Int32) &&& (1 : Int64)) * n1) + ((lus f2 (1 : Int32) &&& (1 : Int64)) * n2))), .second, .val (.long (((lus f1 (2 : Int32) &&& (1 : Int64)) * n1) + ((lus f2 (2 : Int32) &&& (1 : Int64)) * n2))), .second, .val (.long (((lus f1 (3 : Int32) &&& (1 : Int64)) * n1) + ((lus f2 (3 : Int32) &&& (1 : Int64)) * n2))), .second, .val (.long (lus f1 (4 : Int32))), .second, .val (.long (lus f2 (4 : Int32))), .second, .val (.long (((lus f1 (4 : Int32)) * n1) + ((lus f2 (4 : Int32)) * n2))), .second] [(.ref b198)]))
  refine Go.callV C X210 (W := 0) (argsL := []) (rest := []) (a := b198) E201 (wd 44 rfl) (wd 45 rfl) (wd 47 rfl) (wd 46 rfl) (wd 2 rfl) (wd 48 rfl) (by decide) rfl (con_uuids l Z a0 hw n0 h201 X210.size b198 (((0 : Int64) + sel (f1 &&& (1 : Int64)) n1) + sel (f2 &&& (1 : Int64)) n2) G1_201) (by decide) (by decide) rfl (lenOf pd_6 rfl) (Nat.le_of_ble_eq_true rfl) rfl at_143 (by decide) (by decide) (fun T212 h212 v212 X212 hQ212 => ?_)
  obtain ⟨rfl, hh212⟩ := hQ212
  rw [hh212] at X212
  show Go p e below s n0 _ _ _ (T212.setTop (mkF m 146 #[.val (.long f1), .second, .val (.long n1), .second, .val (.long f2), .second, .val (.long n2), .second, .val (.ref b198), .val (.long (n1 + n2)), .second, .val (.long (((lus f1 (0 : Int32) &&& (1 : Int64)) * n1) + ((lus f2 (0 : Int32) &&& (1 : Int64)) * n2))), .second, .val (.long (((lus f1 (1 : Int32) &&& (1 : Int64)) * n1) + ((lus f2 (1 : Int32) &&& (1 : Int64)) * n2))), .second, .val (.long (((lus f1 (2 : Int32) &&& (1 : Int64)) * n1) + ((lus f2 (2 : Int32) &&& (1 : Int64)) * n2))), .second, .val (.long (((lus f1 (3 : Int32) &&& (1 : Int64)) * n1) + ((lus f2 (3 : Int32) &&& (1 : Int64)) * n2))), .second, .val (.long (lus f1 (4 : Int32))), .second, .val (.long (lus f2 (4 : Int32))), .second, .val (.long (((lus f1 (4 : Int32)) * n1) + ((lus f2 (4 : Int32)) * n2))), .second] [(.long (((0 : Int64) + sel (f1 &&& (1 : Int64)) n1) + sel (f2 &&& (1 : Int64)) n2))]))
  refine Go.st (fun _ => XS.lload X212.here C.hx rfl (hb C.hby at_146) rfl) ?_
  show Go p e below s n0 _ _ _ (T212.setTop (mkF m 148 #[.val (.long f1), .second, .val (.long n1), .second, .val (.long f2), .second, .val (.long n2), .second, .val (.ref b198), .val (.long (n1 + n2)), .second, .val (.long (((lus f1 (0 : Int32) &&& (1 : Int64)) * n1) + ((lus f2 (0 : Int32) &&& (1 : Int64)) * n2))), .second, .val (.long (((lus f1 (1 : Int32) &&& (1 : Int64)) * n1) + ((lus f2 (1 : Int32) &&& (1 : Int64)) * n2))), .second, .val (.long (((lus f1 (2 : Int32) &&& (1 : Int64)) * n1) + ((lus f2 (2 : Int32) &&& (1 : Int64)) * n2))), .second, .val (.long (((lus f1 (3 : Int32) &&& (1 : Int64)) * n1) + ((lus f2 (3 : Int32) &&& (1 : Int64)) * n2))), .second, .val (.long (lus f1 (4 : Int32))), .second, .val (.long (lus f2 (4 : Int32))), .second, .val (.long (((lus f1 (4 : Int32)) * n1) + ((lus f2 (4 : Int32)) * n2))), .second] [(.long (((lus f1 (0 : Int32) &&& (1 : Int64)) * n1) + ((lus f2 (0 : Int32) &&& (1 : Int64)) * n2))), (.long (((0 : Int64) + sel (f1 &&& (1 : Int64)) n1) + sel (f2 &&& (1 : Int64)) n2))]))
  refine Go.st (fun _ => XS.lcmp X212.here C.hx rfl (hb C.hby at_148) rfl) ?_
  show Go p e below s n0 _ _ _ (T212.setTop (mkF m 149 #[.val (.long f1), .second, .val (.long n1), .second, .val (.long f2), .second, .val (.long n2), .second, .val (.ref b198), .val (.long (n1 + n2)), .second, .val (.long (((lus f1 (0 : Int32) &&& (1 : Int64)) * n1) + ((lus f2 (0 : Int32) &&& (1 : Int64)) * n2))), .second, .val (.long (((lus f1 (1 : Int32) &&& (1 : Int64)) * n1) + ((lus f2 (1 : Int32) &&& (1 : Int64)) * n2))), .second, .val (.long (((lus f1 (2 : Int32) &&& (1 : Int64)) * n1) + ((lus f2 (2 : Int32) &&& (1 : Int64)) * n2))), .second, .val (.long (((lus f1 (3 : Int32) &&& (1 : Int64)) * n1) + ((lus f2 (3 : Int32) &&& (1 : Int64)) * n2))), .second, .val (.long (lus f1 (4 : Int32))), .second, .val (.long (lus f2 (4 : Int32))), .second, .val (.long (((lus f1 (4 : Int32)) * n1) + ((lus f2 (4 : Int32)) * n2))), .second] [(.int (lcmpW (((0 : Int64) + sel (f1 &&& (1 : Int64)) n1) + sel (f2 &&& (1 : Int64)) n2) (((lus f1 (0 : Int32) &&& (1 : Int64)) * n1) + ((lus f2 (0 : Int32) &&& (1 : Int64)) * n2))))]))
  refine Go.lif_ne C X212 (pc' := 208) at_149 (by decide) (by decide) (fun hc => by first | exact absurd hc (m_b0 f1 n1 f2 n2) | exact absurd (m_b0 f1 n1 f2 n2) hc) (fun _ => ?_)
  show Go p e below s n0 _ _ _ (T212.setTop (mkF m 152 #[.val (.long f1), .second, .val (.long n1), .second, .val (.long f2), .second, .val (.long n2), .second, .val (.ref b198), .val (.long (n1 + n2)), .second, .val (.long (((lus f1 (0 : Int32) &&& (1 : Int64)) * n1) + ((lus f2 (0 : Int32) &&& (1 : Int64)) * n2))), .second, .val (.long (((lus f1 (1 : Int32) &&& (1 : Int64)) * n1) + ((lus f2 (1 : Int32) &&& (1 : Int64)) * n2))), .second, .val (.long (((lus f1 (2 : Int32) &&& (1 : Int64)) * n1) + ((lus f2 (2 : Int32) &&& (1 : Int64)) * n2))), .second, .val (.long (((lus f1 (3 : Int32) &&& (1 : Int64)) * n1) + ((lus f2 (3 : Int32) &&& (1 : Int64)) * n2))), .second, .val (.long (lus f1 (4 : Int32))), .second, .val (.long (lus f2 (4 : Int32))), .second, .val (.long (((lus f1 (4 : Int32)) * n1) + ((lus f2 (4 : Int32)) * n2))), .second] []))
  refine Go.st (fun _ => XS.aload X212.here C.hx rfl (hb C.hby at_152) rfl rfl) ?_
  show Go p e below s n0 _ _ _ (T212.setTop (mkF m 154 #[.val (.long f1), .second, .val (.long n1), .second, .val (.long f2), .second, .val (.long n2), .second, .val (.ref b198), .val (.long (n1 + n2)), .second, .val (.long (((lus f1 (0 : Int32) &&& (1 : Int64)) * n1) + ((lus f2 (0 : Int32) &&& (1 : Int64)) * n2))), .second, .val (.long (((lus f1 (1 : Int32) &&& (1 : Int64)) * n1) + ((lus f2 (1 : Int32) &&& (1 : Int64)) * n2))), .second, .val (.long (((lus f1 (2 : Int32) &&& (1 : Int64)) * n1) + ((lus f2 (2 : Int32) &&& (1 : Int64)) * n2))), .second, .val (.long (((lus f1 (3 : Int32) &&& (1 : Int64)) * n1) + ((lus f2 (3 : Int32) &&& (1 : Int64)) * n2))), .second, .val (.long (lus f1 (4 : Int32))), .second, .val (.long (lus f2 (4 : Int32))), .second, .val (.long (((lus f1 (4 : Int32)) * n1) + ((lus f2 (4 : Int32)) * n2))), .second] [(.ref b198)]))
  refine Go.callV C X212 (W := 0) (argsL := []) (rest := []) (a := b198) E201 (wd 49 rfl) (wd 50 rfl) (wd 52 rfl) (wd 51 rfl) (wd 2 rfl) (wd 53 rfl) (by decide) rfl (con_addresses l Z a0 hw n0 h201 X212.size b198 (((0 : Int64) + sel (f1 &&& (2 : Int64)) n1) + sel (f2 &&& (2 : Int64)) n2) G2_201) (by decide) (by decide) rfl (lenOf pd_7 rfl) (Nat.le_of_ble_eq_true rfl) rfl at_154 (by decide) (by decide) (fun T214 h214 v214 X214 hQ214 => ?_)
  obtain ⟨rfl, hh214⟩ := hQ214
  rw [hh214] at X214
  show Go p e below s n0 _ _ _ (T214.setTop (mkF m 157 #[.val (.long f1), .second, .val (.long n1), .second, .val (.long f2), .second, .val (.long n2), .second, .val (.ref b198), .val (.long (n1 + n2)), .second, .val (.long (((lus f1 (0 : Int32) &&& (1 : Int64)) * n1) + ((lus f2 (0 : Int32) &&& (1 : Int64)) * n2))), .second, .val (.long (((lus f1 (1 : Int32) &&& (1 : Int64)) * n1) + ((lus f2 (1 : Int32) &&& (1 : Int64)) * n2))), .second, .val (.long (((lus f1 (2 : Int32) &&& (1 : Int64)) * n1) + ((lus f2 (2 : Int32) &&& (1 : Int64)) * n2))), .second, .val (.long (((lus f1 (3 : Int32) &&& (1 : Int64)) * n1) + ((lus f2 (3 : Int32) &&& (1 : Int64)) * n2))), .second, .val (.long (lus f1 (4 : Int32))), .second, .val (.long (lus f2 (4 : Int32))), .second, .val (.long (((lus f1 (4 : Int32)) * n1) + ((lus f2 (4 : Int32)) * n2))), .second] [(.long (((0 : Int64) + sel (f1 &&& (2 : Int64)) n1) + sel (f2 &&& (2 : Int64)) n2))]))
  refine Go.st (fun _ => XS.lload X214.here C.hx rfl (hb C.hby at_157) rfl) ?_
  show Go p e below s n0 _ _ _ (T214.setTop (mkF m 159 #[.val (.long f1), .second, .val (.long n1), .second, .val (.long f2), .second, .val (.long n2), .second, .val (.ref b198), .val (.long (n1 + n2)), .second, .val (.long (((lus f1 (0 : Int32) &&& (1 : Int64)) * n1) + ((lus f2 (0 : Int32) &&& (1 : Int64)) * n2))), .second, .val (.long (((lus f1 (1 : Int32) &&& (1 : Int64)) * n1) + ((lus f2 (1 : Int32) &&& (1 : Int64)) * n2))), .second, .val (.long (((lus f1 (2 : Int32) &&& (1 : Int64)) * n1) + ((lus f2 (2 : Int32) &&& (1 : Int64)) * n2))), .second, .val (.long (((lus f1 (3 : Int32) &&& (1 : Int64)) * n1) + ((lus f2 (3 : Int32) &&& (1 : Int64)) * n2))), .second, .val (.long (lus f1 (4 : Int32))), .second, .val (.long (lus f2 (4 : Int32))), .second, .val (.long (((lus f1 (4 : Int32)) * n1) + ((lus f2 (4 : Int32)) * n2))), .second] [(.long (((lus f1 (1 : Int32) &&& (1 : Int64)) * n1) + ((lus f2 (1 : Int32) &&& (1 : Int64)) * n2))), (.long (((0 : Int64) + sel (f1 &&& (2 : Int64)) n1) + sel (f2 &&& (2 : Int64)) n2))]))
  refine Go.st (fun _ => XS.lcmp X214.here C.hx rfl (hb C.hby at_159) rfl) ?_
  show Go p e below s n0 _ _ _ (T214.setTop (mkF m 160 #[.val (.long f1), .second, .val (.long n1), .second, .val (.long f2), .second, .val (.long n2), .second, .val (.ref b198), .val (.long (n1 + n2)), .second, .val (.long (((lus f1 (0 : Int32) &&& (1 : Int64)) * n1) + ((lus f2 (0 : Int32) &&& (1 : Int64)) * n2))), .second, .val (.long (((lus f1 (1 : Int32) &&& (1 : Int64)) * n1) + ((lus f2 (1 : Int32) &&& (1 : Int64)) * n2))), .second, .val (.long (((lus f1 (2 : Int32) &&& (1 : Int64)) * n1) + ((lus f2 (2 : Int32) &&& (1 : Int64)) * n2))), .second, .val (.long (((lus f1 (3 : Int32) &&& (1 : Int64)) * n1) + ((lus f2 (3 : Int32) &&& (1 : Int64)) * n2))), .second, .val (.long (lus f1 (4 : Int32))), .second, .val (.long (lus f2 (4 : Int32))), .second, .val (.long (((lus f1 (4 : Int32)) * n1) + ((lus f2 (4 : Int32)) * n2))), .second] [(.int (lcmpW (((0 : Int64) + sel (f1 &&& (2 : Int64)) n1) + sel (f2 &&& (2 : Int64)) n2) (((lus f1 (1 : Int32) &&& (1 : Int64)) * n1) + ((lus f2 (1 : Int32) &&& (1 : Int64)) * n2))))]))
  refine Go.lif_ne C X214 (pc' := 208) at_160 (by decide) (by decide) (fun hc => by first | exact absurd hc (m_b1 f1 n1 f2 n2) | exact absurd (m_b1 f1 n1 f2 n2) hc) (fun _ => ?_)
  show Go p e below s n0 _ _ _ (T214.setTop (mkF m 163 #[.val (.long f1), .second, .val (.long n1), .second, .val (.long f2), .second, .val (.long n2), .second, .val (.ref b198), .val (.long (n1 + n2)), .second, .val (.long (((lus f1 (0 : Int32) &&& (1 : Int64)) * n1) + ((lus f2 (0 : Int32) &&& (1 : Int64)) * n2))), .second, .val (.long (((lus f1 (1 : Int32) &&& (1 : Int64)) * n1) + ((lus f2 (1 : Int32) &&& (1 : Int64)) * n2))), .second, .val (.long (((lus f1 (2 : Int32) &&& (1 : Int64)) * n1) + ((lus f2 (2 : Int32) &&& (1 : Int64)) * n2))), .second, .val (.long (((lus f1 (3 : Int32) &&& (1 : Int64)) * n1) + ((lus f2 (3 : Int32) &&& (1 : Int64)) * n2))), .second, .val (.long (lus f1 (4 : Int32))), .second, .val (.long (lus f2 (4 : Int32))), .second, .val (.long (((lus f1 (4 : Int32)) * n1) + ((lus f2 (4 : Int32)) * n2))), .second] []))
  refine Go.st (fun _ => XS.aload X214.here C.hx rfl (hb C.hby at_163) rfl rfl) ?_
  show Go p e below s n0 _ _ _ (T214.setTop (mkF m 165 #[.val (.long f1), .second, .val (.long n1), .second, .val (.long f2), .second, .val (.long n2), .second, .val (.ref b198), .val (.long (n1 + n2)), .second, .val (.long (((lus f1 (0 : Int32) &&& (1 : Int64)) * n1) + ((lus f2 (0 : Int32) &&& (1 : Int64)) * n2))), .second, .val (.long (((lus f1 (1 : Int32) &&& (1 : Int64)) * n1) + ((lus f2 (1 : Int32) &&& (1 : Int64)) * n2))), .second, .val (.long (((lus f1 (2 : Int32) &&& (1 : Int64)) * n1) + ((lus f2 (2 : Int32) &&& (1 : Int64)) * n2))), .second, .val (.long (((lus f1 (3 : Int32) &&& (1 : Int64)) * n1) + ((lus f2 (3 : Int32) &&& (1 : Int64)) * n2))), .second, .val (.long (lus f1 (4 : Int32))), .second, .val (.long (lus f2 (4 : Int32))), .second, .val (.long (((lus f1 (4 : Int32)) * n1) + ((lus f2 (4 : Int32)) * n2))), .second] [(.ref b198)]))
  refine Go.callV C X214 (W := 0) (argsL := []) (rest := []) (a := b198) E201 (wd 54 rfl) (wd 55 rfl) (wd 57 rfl) (wd 56 rfl) (wd 2 rfl) (wd 58 rfl) (by decide) rfl (con_uris l Z a0 hw n0 h201 X214.size b198 (((0 : Int64) + sel (f1 &&& (4 : Int64)) n1) + sel (f2 &&& (4 : Int64)) n2) G3_201) (by decide) (by decide) rfl (lenOf pd_8 rfl) (Nat.le_of_ble_eq_true rfl) rfl at_165 (by decide) (by decide) (fun T216 h216 v216 X216 hQ216 => ?_)
  obtain ⟨rfl, hh216⟩ := hQ216
  rw [hh216] at X216
  show Go p e below s n0 _ _ _ (T216.setTop (mkF m 168 #[.val (.long f1), .second, .val (.long n1), .second, .val (.long f2), .second, .val (.long n2), .second, .val (.ref b198), .val (.long (n1 + n2)), .second, .val (.long (((lus f1 (0 : Int32) &&& (1 : Int64)) * n1) + ((lus f2 (0 : Int32) &&& (1 : Int64)) * n2))), .second, .val (.long (((lus f1 (1 : Int32) &&& (1 : Int64)) * n1) + ((lus f2 (1 : Int32) &&& (1 : Int64)) * n2))), .second, .val (.long (((lus f1 (2 : Int32) &&& (1 : Int64)) * n1) + ((lus f2 (2 : Int32) &&& (1 : Int64)) * n2))), .second, .val (.long (((lus f1 (3 : Int32) &&& (1 : Int64)) * n1) + ((lus f2 (3 : Int32) &&& (1 : Int64)) * n2))), .second, .val (.long (lus f1 (4 : Int32))), .second, .val (.long (lus f2 (4 : Int32))), .second, .val (.long (((lus f1 (4 : Int32)) * n1) + ((lus f2 (4 : Int32)) * n2))), .second] [(.long (((0 : Int64) + sel (f1 &&& (4 : Int64)) n1) + sel (f2 &&& (4 : Int64)) n2))]))
  refine Go.st (fun _ => XS.lload X216.here C.hx rfl (hb C.hby at_168) rfl) ?_
  show Go p e below s n0 _ _ _ (T216.setTop (mkF m 170 #[.val (.long f1), .second, .val (.long n1), .second, .val (.long f2), .second, .val (.long n2), .second, .val (.ref b198), .val (.long (n1 + n2)), .second, .val (.long (((lus f1 (0 : Int32) &&& (1 : Int64)) * n1) + ((lus f2 (0 : Int32) &&& (1 : Int64)) * n2))), .second, .val (.long (((lus f1 (1 : Int32) &&& (1 : Int64)) * n1) + ((lus f2 (1 : Int32) &&& (1 : Int64)) * n2))), .second, .val (.long (((lus f1 (2 : Int32) &&& (1 : Int64)) * n1) + ((lus f2 (2 : Int32) &&& (1 : Int64)) * n2))), .second, .val (.long (((lus f1 (3 : Int32) &&& (1 : Int64)) * n1) + ((lus f2 (3 : Int32) &&& (1 : Int64)) * n2))), .second, .val (.long (lus f1 (4 : Int32))), .second, .val (.long (lus f2 (4 : Int32))), .second, .val (.long (((lus f1 (4 : Int32)) * n1) + ((lus f2 (4 : Int32)) * n2))), .second] [(.long (((lus f1 (2 : Int32) &&& (1 : Int64)) * n1) + ((lus f2 (2 : Int32) &&& (1 : Int64)) * n2))), (.long (((0 : Int64) + sel (f1 &&& (4 : Int64)) n1) + sel (f2 &&& (4 : Int64)) n2))]))
  refine Go.st (fun _ => XS.lcmp X216.here C.hx rfl (hb C.hby at_170) rfl) ?_
  show Go p e below s n0 _ _ _ (T216.setTop (mkF m 171 #[.val (.long f1), .second, .val (.long n1), .second, .val (.long f2), .second, .val (.long n2), .second, .val (.ref b198), .val (.long (n1 + n2)), .second, .val (.long (((lus f1 (0 : Int32) &&& (1 : Int64)) * n1) + ((lus f2 (0 : Int32) &&& (1 : Int64)) * n2))), .second, .val (.long (((lus f1 (1 : Int32) &&& (1 : Int64)) * n1) + ((lus f2 (1 : Int32) &&& (1 : Int64)) * n2))), .second, .val (.long (((lus f1 (2 : Int32) &&& (1 : Int64)) * n1) + ((lus f2 (2 : Int32) &&& (1 : Int64)) * n2))), .second, .val (.long (((lus f1 (3 : Int32) &&& (1 : Int64)) * n1) + ((lus f2 (3 : Int32) &&& (1 : Int64)) * n2))), .second, .val (.long (lus f1 (4 : Int32))), .second, .val (.long (lus f2 (4 : Int32))), .second, .val (.long (((lus f1 (4 : Int32)) * n1) + ((lus f2 (4 : Int32)) * n2))), .second] [(.int (lcmpW (((0 : Int64) + sel (f1 &&& (4 : Int64)) n1) + sel (f2 &&& (4 : Int64)) n2) (((lus f1 (2 : Int32) &&& (1 : Int64)) * n1) + ((lus f2 (2 : Int32) &&& (1 : Int64)) * n2))))]))
  refine Go.lif_ne C X216 (pc' := 208) at_171 (by decide) (by decide) (fun hc => by first | exact absurd hc (m_b2 f1 n1 f2 n2) | exact absurd (m_b2 f1 n1 f2 n2) hc) (fun _ => ?_)
  show Go p e below s n0 _ _ _ (T216.setTop (mkF m 174 #[.val (.long f1), .second, .val (.long n1), .second, .val (.long f2), .second, .val (.long n2), .second, .val (.ref b198), .val (.long (n1 + n2)), .second, .val (.long (((lus f1 (0 : Int32) &&& (1 : Int64)) * n1) + ((lus f2 (0 : Int32) &&& (1 : Int64)) * n2))), .second, .val (.long (((lus f1 (1 : Int32) &&& (1 : Int64)) * n1) + ((lus f2 (1 : Int32) &&& (1 : Int64)) * n2))), .second, .val (.long (((lus f1 (2 : Int32) &&& (1 : Int64)) * n1) + ((lus f2 (2 : Int32) &&& (1 : Int64)) * n2))), .second, .val (.long (((lus f1 (3 : Int32) &&& (1 : Int64)) * n1) + ((lus f2 (3 : Int32) &&& (1 : Int64)) * n2))), .second, .val (.long (lus f1 (4 : Int32))), .second, .val (.long (lus f2 (4 : Int32))), .second, .val (.long (((lus f1 (4 : Int32)) * n1) + ((lus f2 (4 : Int32)) * n2))), .second] []))
  refine Go.st (fun _ => XS.aload X216.here C.hx rfl (hb C.hby at_174) rfl rfl) ?_
  show Go p e below s n0 _ _ _ (T216.setTop (mkF m 176 #[.val (.long f1), .second, .val (.long n1), .second, .val (.long f2), .second, .val (.long n2), .second, .val (.ref b198), .val (.long (n1 + n2)), .second, .val (.long (((lus f1 (0 : Int32) &&& (1 : Int64)) * n1) + ((lus f2 (0 : Int32) &&& (1 : Int64)) * n2))), .second, .val (.long (((lus f1 (1 : Int32) &&& (1 : Int64)) * n1) + ((lus f2 (1 : Int32) &&& (1 : Int64)) * n2))), .second, .val (.long (((lus f1 (2 : Int32) &&& (1 : Int64)) * n1) + ((lus f2 (2 : Int32) &&& (1 : Int64)) * n2))), .second, .val (.long (((lus f1 (3 : Int32) &&& (1 : Int64)) * n1) + ((lus f2 (3 : Int32) &&& (1 : Int64)) * n2))), .second, .val (.long (lus f1 (4 : Int32))), .second, .val (.long (lus f2 (4 : Int32))), .second, .val (.long (((lus f1 (4 : Int32)) * n1) + ((lus f2 (4 : Int32)) * n2))), .second] [(.ref b198)]))
  refine Go.callV C X216 (W := 0) (argsL := []) (rest := []) (a := b198) E201 (wd 59 rfl) (wd 60 rfl) (wd 62 rfl) (wd 61 rfl) (wd 2 rfl) (wd 63 rfl) (by decide) rfl (con_spaced l Z a0 hw n0 h201 X216.size b198 (((0 : Int64) + sel (f1 &&& (8 : Int64)) n1) + sel (f2 &&& (8 : Int64)) n2) G4_201) (by decide) (by decide) rfl (lenOf pd_9 rfl) (Nat.le_of_ble_eq_true rfl) rfl at_176 (by decide) (by decide) (fun T218 h218 v218 X218 hQ218 => ?_)
  obtain ⟨rfl, hh218⟩ := hQ218
  rw [hh218] at X218
  show Go p e below s n0 _ _ _ (T218.setTop (mkF m 179 #[.val (.long f1), .second, .val (.long n1), .second, .val (.long f2), .second, .val (.long n2), .second, .val (.ref b198), .val (.long (n1 + n2)), .second, .val (.long (((lus f1 (0 : Int32) &&& (1 : Int64)) * n1) + ((lus f2 (0 : Int32) &&& (1 : Int64)) * n2))), .second, .val (.long (((lus f1 (1 : Int32) &&& (1 : Int64)) * n1) + ((lus f2 (1 : Int32) &&& (1 : Int64)) * n2))), .second, .val (.long (((lus f1 (2 : Int32) &&& (1 : Int64)) * n1) + ((lus f2 (2 : Int32) &&& (1 : Int64)) * n2))), .second, .val (.long (((lus f1 (3 : Int32) &&& (1 : Int64)) * n1) + ((lus f2 (3 : Int32) &&& (1 : Int64)) * n2))), .second, .val (.long (lus f1 (4 : Int32))), .second, .val (.long (lus f2 (4 : Int32))), .second, .val (.long (((lus f1 (4 : Int32)) * n1) + ((lus f2 (4 : Int32)) * n2))), .second] [(.long (((0 : Int64) + sel (f1 &&& (8 : Int64)) n1) + sel (f2 &&& (8 : Int64)) n2))]))
  refine Go.st (fun _ => XS.lload X218.here C.hx rfl (hb C.hby at_179) rfl) ?_
  show Go p e below s n0 _ _ _ (T218.setTop (mkF m 181 #[.val (.long f1), .second, .val (.long n1), .second, .val (.long f2), .second, .val (.long n2), .second, .val (.ref b198), .val (.long (n1 + n2)), .second, .val (.long (((lus f1 (0 : Int32) &&& (1 : Int64)) * n1) + ((lus f2 (0 : Int32) &&& (1 : Int64)) * n2))), .second, .val (.long (((lus f1 (1 : Int32) &&& (1 : Int64)) * n1) + ((lus f2 (1 : Int32) &&& (1 : Int64)) * n2))), .second, .val (.long (((lus f1 (2 : Int32) &&& (1 : Int64)) * n1) + ((lus f2 (2 : Int32) &&& (1 : Int64)) * n2))), .second, .val (.long (((lus f1 (3 : Int32) &&& (1 : Int64)) * n1) + ((lus f2 (3 : Int32) &&& (1 : Int64)) * n2))), .second, .val (.long (lus f1 (4 : Int32))), .second, .val (.long (lus f2 (4 : Int32))), .second, .val (.long (((lus f1 (4 : Int32)) * n1) + ((lus f2 (4 : Int32)) * n2))), .second] [(.long (((lus f1 (3 : Int32) &&& (1 : Int64)) * n1) + ((lus f2 (3 : Int32) &&& (1 : Int64)) * n2))), (.long (((0 : Int64) + sel (f1 &&& (8 : Int64)) n1) + sel (f2 &&& (8 : Int64)) n2))]))
  refine Go.st (fun _ => XS.lcmp X218.here C.hx rfl (hb C.hby at_181) rfl) ?_
  show Go p e below s n0 _ _ _ (T218.setTop (mkF m 182 #[.val (.long f1), .second, .val (.long n1), .second, .val (.long f2), .second, .val (.long n2), .second, .val (.ref b198), .val (.long (n1 + n2)), .second, .val (.long (((lus f1 (0 : Int32) &&& (1 : Int64)) * n1) + ((lus f2 (0 : Int32) &&& (1 : Int64)) * n2))), .second, .val (.long (((lus f1 (1 : Int32) &&& (1 : Int64)) * n1) + ((lus f2 (1 : Int32) &&& (1 : Int64)) * n2))), .second, .val (.long (((lus f1 (2 : Int32) &&& (1 : Int64)) * n1) + ((lus f2 (2 : Int32) &&& (1 : Int64)) * n2))), .second, .val (.long (((lus f1 (3 : Int32) &&& (1 : Int64)) * n1) + ((lus f2 (3 : Int32) &&& (1 : Int64)) * n2))), .second, .val (.long (lus f1 (4 : Int32))), .second, .val (.long (lus f2 (4 : Int32))), .second, .val (.long (((lus f1 (4 : Int32)) * n1) + ((lus f2 (4 : Int32)) * n2))), .second] [(.int (lcmpW (((0 : Int64) + sel (f1 &&& (8 : Int64)) n1) + sel (f2 &&& (8 : Int64)) n2) (((lus f1 (3 : Int32) &&& (1 : Int64)) * n1) + ((lus f2 (3 : Int32) &&& (1 : Int64)) * n2))))]))
  refine Go.lif_ne C X218 (pc' := 208) at_182 (by decide) (by decide) (fun hc => by first | exact absurd hc (m_b3 f1 n1 f2 n2) | exact absurd (m_b3 f1 n1 f2 n2) hc) (fun _ => ?_)
  show Go p e below s n0 _ _ _ (T218.setTop (mkF m 185 #[.val (.long f1), .second, .val (.long n1), .second, .val (.long f2), .second, .val (.long n2), .second, .val (.ref b198), .val (.long (n1 + n2)), .second, .val (.long (((lus f1 (0 : Int32) &&& (1 : Int64)) * n1) + ((lus f2 (0 : Int32) &&& (1 : Int64)) * n2))), .second, .val (.long (((lus f1 (1 : Int32) &&& (1 : Int64)) * n1) + ((lus f2 (1 : Int32) &&& (1 : Int64)) * n2))), .second, .val (.long (((lus f1 (2 : Int32) &&& (1 : Int64)) * n1) + ((lus f2 (2 : Int32) &&& (1 : Int64)) * n2))), .second, .val (.long (((lus f1 (3 : Int32) &&& (1 : Int64)) * n1) + ((lus f2 (3 : Int32) &&& (1 : Int64)) * n2))), .second, .val (.long (lus f1 (4 : Int32))), .second, .val (.long (lus f2 (4 : Int32))), .second, .val (.long (((lus f1 (4 : Int32)) * n1) + ((lus f2 (4 : Int32)) * n2))), .second] []))
  refine Go.st (fun _ => XS.aload X218.here C.hx rfl (hb C.hby at_185) rfl rfl) ?_
  show Go p e below s n0 _ _ _ (T218.setTop (mkF m 187 #[.val (.long f1), .second, .val (.long n1), .second, .val (.long f2), .second, .val (.long n2), .second, .val (.ref b198), .val (.long (n1 + n2)), .second, .val (.long (((lus f1 (0 : Int32) &&& (1 : Int64)) * n1) + ((lus f2 (0 : Int32) &&& (1 : Int64)) * n2))), .second, .val (.long (((lus f1 (1 : Int32) &&& (1 : Int64)) * n1) + ((lus f2 (1 : Int32) &&& (1 : Int64)) * n2))), .second, .val (.long (((lus f1 (2 : Int32) &&& (1 : Int64)) * n1) + ((lus f2 (2 : Int32) &&& (1 : Int64)) * n2))), .second, .val (.long (((lus f1 (3 : Int32) &&& (1 : Int64)) * n1) + ((lus f2 (3 : Int32) &&& (1 : Int64)) * n2))), .second, .val (.long (lus f1 (4 : Int32))), .second, .val (.long (lus f2 (4 : Int32))), .second, .val (.long (((lus f1 (4 : Int32)) * n1) + ((lus f2 (4 : Int32)) * n2))), .second] [(.ref b198)]))
  refine Go.callV C X218 (W := 0) (argsL := []) (rest := []) (a := b198) E201 (wd 64 rfl) (wd 65 rfl) (wd 67 rfl) (wd 66 rfl) (wd 2 rfl) (wd 68 rfl) (by decide) rfl (con_characters l Z a0 hw n0 h201 X218.size b198 (((0 : Int64) + (n1 * (lus f1 (4 : Int32)))) + (n2 * (lus f2 (4 : Int32)))) G5_201) (by decide) (by decide) rfl (lenOf pd_10 rfl) (Nat.le_of_ble_eq_true rfl) rfl at_187 (by decide) (by decide) (fun T220 h220 v220 X220 hQ220 => ?_)
  obtain ⟨rfl, hh220⟩ := hQ220
  rw [hh220] at X220
  show Go p e below s n0 _ _ _ (T220.setTop (mkF m 190 #[.val (.long f1), .second, .val (.long n1), .second, .val (.long f2), .second, .val (.long n2), .second, .val (.ref b198), .val (.long (n1 + n2)), .second, .val (.long (((lus f1 (0 : Int32) &&& (1 : Int64)) * n1) + ((lus f2 (0 : Int32) &&& (1 : Int64)) * n2))), .second, .val (.long (((lus f1 (1 : Int32) &&& (1 : Int64)) * n1) + ((lus f2 (1 : Int32) &&& (1 : Int64)) * n2))), .second, .val (.long (((lus f1 (2 : Int32) &&& (1 : Int64)) * n1) + ((lus f2 (2 : Int32) &&& (1 : Int64)) * n2))), .second, .val (.long (((lus f1 (3 : Int32) &&& (1 : Int64)) * n1) + ((lus f2 (3 : Int32) &&& (1 : Int64)) * n2))), .second, .val (.long (lus f1 (4 : Int32))), .second, .val (.long (lus f2 (4 : Int32))), .second, .val (.long (((lus f1 (4 : Int32)) * n1) + ((lus f2 (4 : Int32)) * n2))), .second] [(.long (((0 : Int64) + (n1 * (lus f1 (4 : Int32)))) + (n2 * (lus f2 (4 : Int32)))))]))
  refine Go.st (fun _ => XS.lload X220.here C.hx rfl (hb C.hby at_190) rfl) ?_
  show Go p e below s n0 _ _ _ (T220.setTop (mkF m 192 #[.val (.long f1), .second, .val (.long n1), .second, .val (.long f2), .second, .val (.long n2), .second, .val (.ref b198), .val (.long (n1 + n2)), .second, .val (.long (((lus f1 (0 : Int32) &&& (1 : Int64)) * n1) + ((lus f2 (0 : Int32) &&& (1 : Int64)) * n2))), .second, .val (.long (((lus f1 (1 : Int32) &&& (1 : Int64)) * n1) + ((lus f2 (1 : Int32) &&& (1 : Int64)) * n2))), .second, .val (.long (((lus f1 (2 : Int32) &&& (1 : Int64)) * n1) + ((lus f2 (2 : Int32) &&& (1 : Int64)) * n2))), .second, .val (.long (((lus f1 (3 : Int32) &&& (1 : Int64)) * n1) + ((lus f2 (3 : Int32) &&& (1 : Int64)) * n2))), .second, .val (.long (lus f1 (4 : Int32))), .second, .val (.long (lus f2 (4 : Int32))), .second, .val (.long (((lus f1 (4 : Int32)) * n1) + ((lus f2 (4 : Int32)) * n2))), .second] [(.long (((lus f1 (4 : Int32)) * n1) + ((lus f2 (4 : Int32)) * n2))), (.long (((0 : Int64) + (n1 * (lus f1 (4 : Int32)))) + (n2 * (lus f2 (4 : Int32)))))]))
  refine Go.st (fun _ => XS.lcmp X220.here C.hx rfl (hb C.hby at_192) rfl) ?_
  show Go p e below s n0 _ _ _ (T220.setTop (mkF m 193 #[.val (.long f1), .second, .val (.long n1), .second, .val (.long f2), .second, .val (.long n2), .second, .val (.ref b198), .val (.long (n1 + n2)), .second, .val (.long (((lus f1 (0 : Int32) &&& (1 : Int64)) * n1) + ((lus f2 (0 : Int32) &&& (1 : Int64)) * n2))), .second, .val (.long (((lus f1 (1 : Int32) &&& (1 : Int64)) * n1) + ((lus f2 (1 : Int32) &&& (1 : Int64)) * n2))), .second, .val (.long (((lus f1 (2 : Int32) &&& (1 : Int64)) * n1) + ((lus f2 (2 : Int32) &&& (1 : Int64)) * n2))), .second, .val (.long (((lus f1 (3 : Int32) &&& (1 : Int64)) * n1) + ((lus f2 (3 : Int32) &&& (1 : Int64)) * n2))), .second, .val (.long (lus f1 (4 : Int32))), .second, .val (.long (lus f2 (4 : Int32))), .second, .val (.long (((lus f1 (4 : Int32)) * n1) + ((lus f2 (4 : Int32)) * n2))), .second] [(.int (lcmpW (((0 : Int64) + (n1 * (lus f1 (4 : Int32)))) + (n2 * (lus f2 (4 : Int32)))) (((lus f1 (4 : Int32)) * n1) + ((lus f2 (4 : Int32)) * n2))))]))
  refine Go.lif_ne C X220 (pc' := 208) at_193 (by decide) (by decide) (fun hc => by first | exact absurd hc (m_chars f1 n1 f2 n2) | exact absurd (m_chars f1 n1 f2 n2) hc) (fun _ => ?_)
  show Go p e below s n0 _ _ _ (T220.setTop (mkF m 196 #[.val (.long f1), .second, .val (.long n1), .second, .val (.long f2), .second, .val (.long n2), .second, .val (.ref b198), .val (.long (n1 + n2)), .second, .val (.long (((lus f1 (0 : Int32) &&& (1 : Int64)) * n1) + ((lus f2 (0 : Int32) &&& (1 : Int64)) * n2))), .second, .val (.long (((lus f1 (1 : Int32) &&& (1 : Int64)) * n1) + ((lus f2 (1 : Int32) &&& (1 : Int64)) * n2))), .second, .val (.long (((lus f1 (2 : Int32) &&& (1 : Int64)) * n1) + ((lus f2 (2 : Int32) &&& (1 : Int64)) * n2))), .second, .val (.long (((lus f1 (3 : Int32) &&& (1 : Int64)) * n1) + ((lus f2 (3 : Int32) &&& (1 : Int64)) * n2))), .second, .val (.long (lus f1 (4 : Int32))), .second, .val (.long (lus f2 (4 : Int32))), .second, .val (.long (((lus f1 (4 : Int32)) * n1) + ((lus f2 (4 : Int32)) * n2))), .second] []))
  refine Go.st (fun _ => XS.aload X220.here C.hx rfl (hb C.hby at_196) rfl rfl) ?_
  show Go p e below s n0 _ _ _ (T220.setTop (mkF m 198 #[.val (.long f1), .second, .val (.long n1), .second, .val (.long f2), .second, .val (.long n2), .second, .val (.ref b198), .val (.long (n1 + n2)), .second, .val (.long (((lus f1 (0 : Int32) &&& (1 : Int64)) * n1) + ((lus f2 (0 : Int32) &&& (1 : Int64)) * n2))), .second, .val (.long (((lus f1 (1 : Int32) &&& (1 : Int64)) * n1) + ((lus f2 (1 : Int32) &&& (1 : Int64)) * n2))), .second, .val (.long (((lus f1 (2 : Int32) &&& (1 : Int64)) * n1) + ((lus f2 (2 : Int32) &&& (1 : Int64)) * n2))), .second, .val (.long (((lus f1 (3 : Int32) &&& (1 : Int64)) * n1) + ((lus f2 (3 : Int32) &&& (1 : Int64)) * n2))), .second, .val (.long (lus f1 (4 : Int32))), .second, .val (.long (lus f2 (4 : Int32))), .second, .val (.long (((lus f1 (4 : Int32)) * n1) + ((lus f2 (4 : Int32)) * n2))), .second] [(.ref b198)]))
  refine Go.callV C X220 (W := 0) (argsL := []) (rest := []) (a := b198) E201 (wd 69 rfl) (wd 70 rfl) (wd 72 rfl) (wd 71 rfl) (wd 2 rfl) (wd 73 rfl) (by decide) rfl (con_maxBytes l Z a0 hw n0 h201 X220.size b198 (0 : Int32) G6_201) (by decide) (by decide) rfl (lenOf pd_11 rfl) (Nat.le_of_ble_eq_true rfl) rfl at_198 (by decide) (by decide) (fun T222 h222 v222 X222 hQ222 => ?_)
  obtain ⟨rfl, hh222⟩ := hQ222
  rw [hh222] at X222
  show Go p e below s n0 _ _ _ (T222.setTop (mkF m 201 #[.val (.long f1), .second, .val (.long n1), .second, .val (.long f2), .second, .val (.long n2), .second, .val (.ref b198), .val (.long (n1 + n2)), .second, .val (.long (((lus f1 (0 : Int32) &&& (1 : Int64)) * n1) + ((lus f2 (0 : Int32) &&& (1 : Int64)) * n2))), .second, .val (.long (((lus f1 (1 : Int32) &&& (1 : Int64)) * n1) + ((lus f2 (1 : Int32) &&& (1 : Int64)) * n2))), .second, .val (.long (((lus f1 (2 : Int32) &&& (1 : Int64)) * n1) + ((lus f2 (2 : Int32) &&& (1 : Int64)) * n2))), .second, .val (.long (((lus f1 (3 : Int32) &&& (1 : Int64)) * n1) + ((lus f2 (3 : Int32) &&& (1 : Int64)) * n2))), .second, .val (.long (lus f1 (4 : Int32))), .second, .val (.long (lus f2 (4 : Int32))), .second, .val (.long (((lus f1 (4 : Int32)) * n1) + ((lus f2 (4 : Int32)) * n2))), .second] [(.int (0 : Int32))]))
  refine Go.if_ne C X222 (pc' := 208) at_201 (by decide) (by decide) (fun hc => absurd hc (by decide)) (fun _ => ?_)
  show Go p e below s n0 _ _ _ (T222.setTop (mkF m 204 #[.val (.long f1), .second, .val (.long n1), .second, .val (.long f2), .second, .val (.long n2), .second, .val (.ref b198), .val (.long (n1 + n2)), .second, .val (.long (((lus f1 (0 : Int32) &&& (1 : Int64)) * n1) + ((lus f2 (0 : Int32) &&& (1 : Int64)) * n2))), .second, .val (.long (((lus f1 (1 : Int32) &&& (1 : Int64)) * n1) + ((lus f2 (1 : Int32) &&& (1 : Int64)) * n2))), .second, .val (.long (((lus f1 (2 : Int32) &&& (1 : Int64)) * n1) + ((lus f2 (2 : Int32) &&& (1 : Int64)) * n2))), .second, .val (.long (((lus f1 (3 : Int32) &&& (1 : Int64)) * n1) + ((lus f2 (3 : Int32) &&& (1 : Int64)) * n2))), .second, .val (.long (lus f1 (4 : Int32))), .second, .val (.long (lus f2 (4 : Int32))), .second, .val (.long (((lus f1 (4 : Int32)) * n1) + ((lus f2 (4 : Int32)) * n2))), .second] []))
  refine Go.st (fun _ => XS.iconst X222.here C.hx rfl (hb C.hby at_204)) ?_
  show Go p e below s n0 _ _ _ (T222.setTop (mkF m 205 #[.val (.long f1), .second, .val (.long n1), .second, .val (.long f2), .second, .val (.long n2), .second, .val (.ref b198), .val (.long (n1 + n2)), .second, .val (.long (((lus f1 (0 : Int32) &&& (1 : Int64)) * n1) + ((lus f2 (0 : Int32) &&& (1 : Int64)) * n2))), .second, .val (.long (((lus f1 (1 : Int32) &&& (1 : Int64)) * n1) + ((lus f2 (1 : Int32) &&& (1 : Int64)) * n2))), .second, .val (.long (((lus f1 (2 : Int32) &&& (1 : Int64)) * n1) + ((lus f2 (2 : Int32) &&& (1 : Int64)) * n2))), .second, .val (.long (((lus f1 (3 : Int32) &&& (1 : Int64)) * n1) + ((lus f2 (3 : Int32) &&& (1 : Int64)) * n2))), .second, .val (.long (lus f1 (4 : Int32))), .second, .val (.long (lus f2 (4 : Int32))), .second, .val (.long (((lus f1 (4 : Int32)) * n1) + ((lus f2 (4 : Int32)) * n2))), .second] [(.int (1 : Int32))]))
  refine Go.st (fun _ => XS.goto X222.here C.hx rfl (pc0 := 205) (pc' := 209) rfl (hb C.hby at_205) (by decide) (by decide)) ?_
  show Go p e below s n0 _ _ _ (T222.setTop (mkF m 209 #[.val (.long f1), .second, .val (.long n1), .second, .val (.long f2), .second, .val (.long n2), .second, .val (.ref b198), .val (.long (n1 + n2)), .second, .val (.long (((lus f1 (0 : Int32) &&& (1 : Int64)) * n1) + ((lus f2 (0 : Int32) &&& (1 : Int64)) * n2))), .second, .val (.long (((lus f1 (1 : Int32) &&& (1 : Int64)) * n1) + ((lus f2 (1 : Int32) &&& (1 : Int64)) * n2))), .second, .val (.long (((lus f1 (2 : Int32) &&& (1 : Int64)) * n1) + ((lus f2 (2 : Int32) &&& (1 : Int64)) * n2))), .second, .val (.long (((lus f1 (3 : Int32) &&& (1 : Int64)) * n1) + ((lus f2 (3 : Int32) &&& (1 : Int64)) * n2))), .second, .val (.long (lus f1 (4 : Int32))), .second, .val (.long (lus f2 (4 : Int32))), .second, .val (.long (((lus f1 (4 : Int32)) * n1) + ((lus f2 (4 : Int32)) * n2))), .second] [(.int (1 : Int32))]))
  exact Go.retZ C X222 (by decide) at_209 rfl (by decide) (by decide)
set_option maxRecDepth 65536 in
set_option maxHeartbeats 40000000 in
theorem comes_1 {Post : Tables → Env → Array Value → State → Outcome → State → Prop} (hpost : ∀ tb e args s v u, (limb_1_1.after args s (.returned v) u = true ∧ limb_1_2.after args s (.returned v) u = true ∧ True) → FrameEnd s (.returned v) u (Jvm.fieldLocs frame_1_writes args s ++ Jvm.arrayLocs frame_1_arrays args s ++ Jvm.staticLocs frame_1_statics s) 16 128 → Post tb e args s (.returned v) u) :
    ArmFor flags0 classFile x code maxLocals ret World_1 tables_1 room_1 Calls_1 rest_1 Pre_1 Post := by
  intro l hfl _ _ p e ha hc hk s m args below hf hA hF happ hP
  obtain ⟨hcalls, hrest, hpre⟩ := hP
  obtain ⟨-, -, -, hnamed, -, -, -, hat⟩ := (Spec.applies_iff hf).mp happ
  obtain ⟨hg, hn⟩ := and_e (Cond.before_iff.mp (show (Jvm.Cond.and given_1 narrow_1).before args s = true from hpre))
  obtain ⟨h1, hr0⟩ := and_e hg
  obtain ⟨ha0, hr1⟩ := and_e hr0
  obtain ⟨ha1, hr2⟩ := and_e hr1
  obtain ⟨ha2, hr3⟩ := and_e hr2
  have ha3 := hr3
  obtain ⟨w0, w1, w2, w3, rfl⟩ : ∃ w0 w1 w2 w3 : Value, args = #[w0, w1, w2, w3] := by
    have hs : args.size = 4 := by simpa [Cond.value, given_1] using h1
    obtain ⟨L⟩ := args
    match L, hs with
    | [w0, w1, w2, w3], _ => exact ⟨w0, w1, w2, w3, rfl⟩
  have hw := fun d (hd : d ∈ tables_1) => atoms_spec (ws := Jvm.Cond.code x code maxLocals ret :: tables_1) hat d (List.mem_cons_of_mem _ hd)
  obtain ⟨i0, e0⟩ := isL_v ha0
  obtain rfl : w0 = (.long i0) := Option.some.inj e0
  obtain ⟨i1, e1⟩ := isL_v ha1
  obtain rfl : w1 = (.long i1) := Option.some.inj e1
  obtain ⟨i2, e2⟩ := isL_v ha2
  obtain rfl : w2 = (.long i2) := Option.some.inj e2
  obtain ⟨i3, e3⟩ := isL_v ha3
  obtain rfl : w3 = (.long i3) := Option.some.inj e3
  obtain ⟨n, o, h1, h2, h3, _, L, rfl, ⟨rfl, N⟩, hq⟩ := con_law l s _ hw s.heap.size s.heap (Nat.le_refl _) i0 i1 i2 i3  p e ha hc hk s m _ below hf ((Spec.applies_iff_loose hf).mp happ).1 ⟨rfl, State.Warmed39.refl s, rfl⟩ trivial
  refine ⟨n, _, h1, h2, h3, hpost _ _ _ _ _ _ ⟨Cond.after_iff.mpr rfl, Cond.after_iff.mpr (eq_i res_at (Term.int_eval (1)) rfl), trivial⟩ ⟨hq.1, hq.2.1, (hq.2.2.sift fun y hy => Or.inr (N y hy)).mono (by decide) (by decide)⟩⟩
theorem main_1_1 : Claimed_1_1 := comes_1 fun _ _ _ _ _ _ h hF => ⟨h.1, hF⟩
theorem main_1_2 : Claimed_1_2 := comes_1 fun _ _ _ _ _ _ h hF => ⟨h.2.1, hF⟩
end Jvm.Pilot.@@N@@
namespace Jvm.Pilot.@@N@@
open Jvm Jvm.ClassFile Sem Op Lib Jvm.Free Jvm.Stand Jvm.Pilot.@@N@@.Jvm.D
/-! MADE BY PROGRAM (witnessworld.py) out of the Statement's table words and the real class files: 9 classes; the members and pool entries that the words name. The judged class is class 1, her method 2. -/
namespace start1
open Jvm.ClassFile
def u (s : String) : CpInfo := .utf8 (stringToUtf16 s)
/-- a pool by its gaps: so many unusable entries, then the entry; so many at the end -/
def gap : Nat → List CpInfo → List CpInfo
  | 0, r => r
  | n + 1, r => .unusable :: gap n r
def poolList (es : List (Nat × CpInfo)) (last : Nat) : List CpInfo := es.foldr (fun e r => gap e.1 (e.2 :: r)) (gap last [])
def pool (es : List (Nat × CpInfo)) (last : Nat) : Array CpInfo := ⟨poolList es last⟩
def fileOf (pool : Array CpInfo) (this : Nat) (attrs : Array Attribute := #[]) (ms : Array MethodInfo := #[]) (fl : Nat := 33) (sup : Nat := 0) (ifs : Array Nat := #[]) (fds : Array FieldInfo := #[]) : ClassFile where
  minorVersion := 0
  majorVersion := 65
  constantPool := pool
  accessFlags := fl
  thisClass := this
  superClass := sup
  interfaces := ifs
  fields := fds
  methods := ms
  attributes := attrs
def plain (name : String) (sup : Option ClassId) : Class where
  name := name
  kind := .ordinary
  loader := none
  accessFlags := 33
  super := sup
  interfaces := #[]
  cf := none
  fields := #[]
  methods := #[]
  instanceTypes := #[]
  staticTypes := #[]
  resolved := #[]
  callSites := []
  init := .initialized
  statics := none
  mirror := none

def pool0 : Array CpInfo := pool [(5, u "<init>"), (0, u "()V"), (1, .class_ 10), (1, u "java/lang/Object")] 113

def k0c0 : Code := { maxStack := 0, maxLocals := 1, code := object_method_1_code, exceptionTable := #[], attributes := #[] }
def k0m0 : Method := { name := "<init>", desc := "()V", sig := { parameters := [], returnType := none }, accessFlags := 1, code := some k0c0 }
/-- java/lang/Object -/
def k0 : Class := { plain "java/lang/Object" none with
  accessFlags := 33
  interfaces := #[]
  cf := some (fileOf pool0 8 #[] #[{ accessFlags := 1, nameIndex := 5, descriptorIndex := 6, attributes := #[] }] 33 0 #[] #[])
  fields := #[]
  methods := #[k0m0]
  instanceTypes := #[]
  staticTypes := #[]
  resolved := Array.replicate 124 none
  statics := none }

def pool1 : Array CpInfo := pool [(2, .class_ 4), (0, .nameAndType 5 6), (0, u "java/lang/Object"), (0, u "<init>"), (0, u "()V"), (0, .class_ 8), (0, u "com/example/vitruvius/vitruvius/profile/ValueSummary"), (0, .methodref 7 3), (0, .methodref 7 11), (0, .nameAndType 12 13), (0, u "add"), (0, u "(JJ)V"), (0, .methodref 15 16), (0, .class_ 17), (0, .nameAndType 18 19), (0, u "com/example/vitruvius/vitruvius/profile/ValueSummaryAddPinLaw"), (0, u "bit"), (0, u "(JI)J"), (0, .methodref 7 21), (0, .nameAndType 22 23), (0, u "values"), (0, u "()J"), (0, .methodref 7 25), (0, .nameAndType 26 23), (0, u "uuids"), (0, .methodref 7 28), (0, .nameAndType 29 23), (0, u "addresses"), (0, .methodref 7 31), (0, .nameAndType 32 23), (0, u "uris"), (0, .methodref 7 34), (0, .nameAndType 35 23), (0, u "spaced"), (0, .methodref 7 37), (0, .nameAndType 38 23), (0, u "characters"), (0, .methodref 7 40), (0, .nameAndType 41 42), (0, u "maxBytes"), (0, u "()I"), (2, u "law"), (0, u "(JJJJ)Z")] 3

def k1m0 : Method := { name := "<init>", desc := "()V", sig := { parameters := [], returnType := none }, accessFlags := 1, code := none }
def k1c1 : Code := { maxStack := 4, maxLocals := 3, code := method_2_code, exceptionTable := #[], attributes := #[] }
def k1m1 : Method := { name := "bit", desc := "(JI)J", sig := { parameters := [.long, .int], returnType := some .long }, accessFlags := 10, code := some k1c1 }
def k1c2 : Code := { maxStack := 6, maxLocals := 25, code := code, exceptionTable := #[], attributes := #[] }
def k1m2 : Method := { name := "law", desc := "(JJJJ)Z", sig := { parameters := [.long, .long, .long, .long], returnType := some .boolean }, accessFlags := 9, code := some k1c2 }
/-- com/example/vitruvius/vitruvius/profile/ValueSummaryAddPinLaw -/
def k1 : Class := { plain "com/example/vitruvius/vitruvius/profile/ValueSummaryAddPinLaw" (some 0) with
  accessFlags := 49
  interfaces := #[]
  cf := some (fileOf pool1 15 #[] #[{ accessFlags := 1, nameIndex := 5, descriptorIndex := 6, attributes := #[] }, { accessFlags := 10, nameIndex := 18, descriptorIndex := 19, attributes := #[] }, { accessFlags := 9, nameIndex := 45, descriptorIndex := 46, attributes := #[] }] 49 2 #[] #[])
  fields := #[]
  methods := #[k1m0, k1m1, k1m2]
  instanceTypes := #[]
  staticTypes := #[]
  resolved := Array.replicate 50 none
  statics := none }

def pool2 : Array CpInfo := pool [(1, .methodref 2 3), (0, .class_ 4), (0, .nameAndType 5 6), (0, u "java/lang/Object"), (0, u "<init>"), (0, u "()V"), (0, .fieldref 8 9), (0, .class_ 10), (0, .nameAndType 11 12), (0, u "com/example/vitruvius/vitruvius/profile/ValueSummary"), (0, u "integers"), (0, u "Z"), (0, .fieldref 8 14), (0, .nameAndType 15 12), (0, u "decimals"), (0, .fieldref 8 17), (0, .nameAndType 18 12), (0, u "booleans"), (3, u "seen"), (0, .fieldref 8 24), (0, .nameAndType 25 26), (0, u "maxBytes"), (0, u "I"), (10, u "add"), (0, u "(JJ)V"), (24, .long 2), (4, .long 4), (1, .long 8), (1, .fieldref 8 73), (0, .nameAndType 74 75), (0, u "values"), (0, u "J"), (0, .fieldref 8 77), (0, .nameAndType 78 75), (0, u "uuids"), (0, .fieldref 8 80), (0, .nameAndType 81 75), (0, u "addresses"), (0, .fieldref 8 83), (0, .nameAndType 84 75), (0, u "uris"), (0, .fieldref 8 86), (0, .nameAndType 87 75), (0, u "spaced"), (0, .fieldref 8 89), (0, .nameAndType 90 75), (0, u "characters"), (18, u "UUID"), (3, u "ADDRESS"), (0, u "URI"), (0, u "SPACED"), (0, u "CHARACTERS_SHIFT"), (11, u "()J"), (0, u "()I")] 2

def k2c0 : Code := { maxStack := 2, maxLocals := 1, code := prog_68_method_1_code, exceptionTable := #[], attributes := #[] }
def k2m0 : Method := { name := "<init>", desc := "()V", sig := { parameters := [], returnType := none }, accessFlags := 0, code := some k2c0 }
def k2c1 : Code := { maxStack := 8, maxLocals := 5, code := prog_68_method_6_code, exceptionTable := #[], attributes := #[] }
def k2m1 : Method := { name := "add", desc := "(JJ)V", sig := { parameters := [.long, .long], returnType := none }, accessFlags := 0, code := some k2c1 }
def k2c2 : Code := { maxStack := 2, maxLocals := 1, code := prog_68_method_8_code, exceptionTable := #[], attributes := #[] }
def k2m2 : Method := { name := "values", desc := "()J", sig := { parameters := [], returnType := some .long }, accessFlags := 0, code := some k2c2 }
def k2c3 : Code := { maxStack := 2, maxLocals := 1, code := prog_68_method_9_code, exceptionTable := #[], attributes := #[] }
def k2m3 : Method := { name := "uuids", desc := "()J", sig := { parameters := [], returnType := some .long }, accessFlags := 0, code := some k2c3 }
def k2c4 : Code := { maxStack := 2, maxLocals := 1, code := prog_68_method_10_code, exceptionTable := #[], attributes := #[] }
def k2m4 : Method := { name := "addresses", desc := "()J", sig := { parameters := [], returnType := some .long }, accessFlags := 0, code := some k2c4 }
def k2c5 : Code := { maxStack := 2, maxLocals := 1, code := prog_68_method_11_code, exceptionTable := #[], attributes := #[] }
def k2m5 : Method := { name := "uris", desc := "()J", sig := { parameters := [], returnType := some .long }, accessFlags := 0, code := some k2c5 }
def k2c6 : Code := { maxStack := 2, maxLocals := 1, code := prog_68_method_12_code, exceptionTable := #[], attributes := #[] }
def k2m6 : Method := { name := "spaced", desc := "()J", sig := { parameters := [], returnType := some .long }, accessFlags := 0, code := some k2c6 }
def k2c7 : Code := { maxStack := 2, maxLocals := 1, code := prog_68_method_13_code, exceptionTable := #[], attributes := #[] }
def k2m7 : Method := { name := "characters", desc := "()J", sig := { parameters := [], returnType := some .long }, accessFlags := 0, code := some k2c7 }
def k2c8 : Code := { maxStack := 1, maxLocals := 1, code := prog_68_method_14_code, exceptionTable := #[], attributes := #[] }
def k2m8 : Method := { name := "maxBytes", desc := "()I", sig := { parameters := [], returnType := some .int }, accessFlags := 0, code := some k2c8 }
/-- com/example/vitruvius/vitruvius/profile/ValueSummary -/
def k2 : Class := { plain "com/example/vitruvius/vitruvius/profile/ValueSummary" (some 0) with
  accessFlags := 48
  interfaces := #[]
  cf := some (fileOf pool2 8 #[] #[{ accessFlags := 0, nameIndex := 5, descriptorIndex := 6, attributes := #[] }, { accessFlags := 0, nameIndex := 37, descriptorIndex := 38, attributes := #[] }, { accessFlags := 0, nameIndex := 74, descriptorIndex := 128, attributes := #[] }, { accessFlags := 0, nameIndex := 78, descriptorIndex := 128, attributes := #[] }, { accessFlags := 0, nameIndex := 81, descriptorIndex := 128, attributes := #[] }, { accessFlags := 0, nameIndex := 84, descriptorIndex := 128, attributes := #[] }, { accessFlags := 0, nameIndex := 87, descriptorIndex := 128, attributes := #[] }, { accessFlags := 0, nameIndex := 90, descriptorIndex := 128, attributes := #[] }, { accessFlags := 0, nameIndex := 25, descriptorIndex := 129, attributes := #[] }] 48 2 #[] #[{ accessFlags := 26, nameIndex := 109, descriptorIndex := 75, attributes := #[] }, { accessFlags := 26, nameIndex := 113, descriptorIndex := 75, attributes := #[] }, { accessFlags := 26, nameIndex := 114, descriptorIndex := 75, attributes := #[] }, { accessFlags := 26, nameIndex := 115, descriptorIndex := 75, attributes := #[] }, { accessFlags := 26, nameIndex := 116, descriptorIndex := 26, attributes := #[] }, { accessFlags := 2, nameIndex := 11, descriptorIndex := 12, attributes := #[] }, { accessFlags := 2, nameIndex := 15, descriptorIndex := 12, attributes := #[] }, { accessFlags := 2, nameIndex := 18, descriptorIndex := 12, attributes := #[] }, { accessFlags := 2, nameIndex := 22, descriptorIndex := 12, attributes := #[] }, { accessFlags := 2, nameIndex := 25, descriptorIndex := 26, attributes := #[] }, { accessFlags := 2, nameIndex := 74, descriptorIndex := 75, attributes := #[] }, { accessFlags := 2, nameIndex := 78, descriptorIndex := 75, attributes := #[] }, { accessFlags := 2, nameIndex := 81, descriptorIndex := 75, attributes := #[] }, { accessFlags := 2, nameIndex := 84, descriptorIndex := 75, attributes := #[] }, { accessFlags := 2, nameIndex := 87, descriptorIndex := 75, attributes := #[] }, { accessFlags := 2, nameIndex := 90, descriptorIndex := 75, attributes := #[] }])
  fields := #[{ name := "UUID", type := .long, accessFlags := 26, slot := 0, constantValue := 0 }, { name := "ADDRESS", type := .long, accessFlags := 26, slot := 1, constantValue := 0 }, { name := "URI", type := .long, accessFlags := 26, slot := 2, constantValue := 0 }, { name := "SPACED", type := .long, accessFlags := 26, slot := 3, constantValue := 0 }, { name := "CHARACTERS_SHIFT", type := .int, accessFlags := 26, slot := 4, constantValue := 0 }, { name := "integers", type := .boolean, accessFlags := 2, slot := 0, constantValue := 0 }, { name := "decimals", type := .boolean, accessFlags := 2, slot := 1, constantValue := 0 }, { name := "booleans", type := .boolean, accessFlags := 2, slot := 2, constantValue := 0 }, { name := "seen", type := .boolean, accessFlags := 2, slot := 3, constantValue := 0 }, { name := "maxBytes", type := .int, accessFlags := 2, slot := 4, constantValue := 0 }, { name := "values", type := .long, accessFlags := 2, slot := 5, constantValue := 0 }, { name := "uuids", type := .long, accessFlags := 2, slot := 6, constantValue := 0 }, { name := "addresses", type := .long, accessFlags := 2, slot := 7, constantValue := 0 }, { name := "uris", type := .long, accessFlags := 2, slot := 8, constantValue := 0 }, { name := "spaced", type := .long, accessFlags := 2, slot := 9, constantValue := 0 }, { name := "characters", type := .long, accessFlags := 2, slot := 10, constantValue := 0 }]
  methods := #[k2m0, k2m1, k2m2, k2m3, k2m4, k2m5, k2m6, k2m7, k2m8]
  instanceTypes := #[.boolean, .boolean, .boolean, .boolean, .int, .long, .long, .long, .long, .long, .long]
  staticTypes := #[.long, .long, .long, .long, .int]
  resolved := Array.replicate 132 none
  statics := none }

def pool3 : Array CpInfo := pool [(1, u "java/lang/Cloneable"), (0, .class_ 1), (0, u "java/lang/Object"), (0, .class_ 3)] 3

/-- java/lang/Cloneable -/
def k3 : Class := { plain "java/lang/Cloneable" (some 0) with
  accessFlags := 1537
  interfaces := #[]
  cf := some (fileOf pool3 2 #[] #[] 1537 4 #[] #[])
  fields := #[]
  methods := #[]
  instanceTypes := #[]
  staticTypes := #[]
  resolved := Array.replicate 8 none
  statics := none }

def pool4 : Array CpInfo := pool [(1, u "java/io/Serializable"), (0, .class_ 1), (0, u "java/lang/Object"), (0, .class_ 3)] 3

/-- java/io/Serializable -/
def k4 : Class := { plain "java/io/Serializable" (some 0) with
  accessFlags := 1537
  interfaces := #[]
  cf := some (fileOf pool4 2 #[] #[] 1537 4 #[] #[])
  fields := #[]
  methods := #[]
  instanceTypes := #[]
  staticTypes := #[]
  resolved := Array.replicate 8 none
  statics := none }

/-- the primitive byte -/
def k5 : Class := { plain "byte" none with kind := .primitive 'B', accessFlags := 0x411 }
/-- [B -/
def k6 : Class := { plain "[B" (some 0) with kind := .array 5 .byte, interfaces := #[3, 4], accessFlags := 1041 }

/-- the primitive int -/
def k7 : Class := { plain "int" none with kind := .primitive 'I', accessFlags := 0x411 }
/-- [I -/
def k8 : Class := { plain "[I" (some 0) with kind := .array 7 .int, interfaces := #[3, 4], accessFlags := 1041 }

def heap : Heap := #[]
def classes : Array Class := #[k0, k1, k2, k3, k4, k5, k6, k7, k8]
def interned : List (Array UInt16 × Addr) := []
def slotsUsed : Nat := 0
def theMethod : MethodId := ⟨1, 2⟩
def args0 : Array Value := #[.long 5, .long 2, .long 3, .long 9]
def aboutOver (below : List Frame) : State where
  vm := { classes := classes, interned := interned.toArray }
  heap := heap
  slotsUsed := slotsUsed
  threads := #[{ frames := .invoking theMethod args0 :: below }]
def below0 : List Frame := [.native { method := ⟨0, 0⟩, args := #[] }]
def about1 : State := aboutOver below0
def p0 : Program := .bare "" "" ""
def e0 : Env := launch0.env 0 0 0
theorem w_frames : about1.frames = Frame.invoking theMethod args0 :: below0 := rfl
set_option maxRecDepth 65536 in
theorem w_args : argsFit about1.vm theMethod args0 = true := by decide +kernel
set_option maxRecDepth 65536 in
theorem w_heap : heapFits about1 = true := by decide +kernel
set_option maxRecDepth 65536 in
theorem w_runnable : about1.curStatus? = some .runnable := by decide +kernel
set_option maxRecDepth 65536 in
theorem w_alone : about1.alone = true := by decide +kernel
set_option maxRecDepth 65536 in
theorem w_named : about1.methodNamed? x = some theMethod := by decide +kernel
set_option maxRecDepth 65536 in
theorem w_hears : about1.hears theMethod below0 = true := by decide +kernel
set_option maxRecDepth 65536 in
theorem w_ripe : about1.ripe theMethod args0 below0 = true := by decide +kernel
theorem w_running : about1.status = .running := rfl
set_option maxRecDepth 65536 in
theorem w_room : about1.hasRoom e0.platform room_1 = true :=
  launch0.hasRoom_least _ room_1 (by decide +kernel) (by decide +kernel) (by decide +kernel) (by decide +kernel) (by decide +kernel) (by decide +kernel)
theorem allAtoms_all (ts : List Jvm.Cond) (a : Array Jvm.Value) (st : Jvm.State) : (allAtoms ts).before a st = ts.all (fun c => c.before a st) := by
  induction ts with
  | nil => rfl
  | cons c t ih =>
    show (Jvm.Cond.and c (allAtoms t)).before a st = _
    rw [Jvm.Cond.before_and, ih, List.all_cons]
def words1 : List Jvm.Cond := Jvm.Cond.code x code maxLocals ret :: tables_1
/-- a 'code' word, met by the world's own term for the bytes: nothing is compared byte by byte -/
theorem code_word {y : MethodName} {bytes : ByteArray} {mx : Nat} {rt : Option FieldType} {a : Array Value} {s : State} {m : MethodId} {meth : Method} {c : Code} (h1 : s.methodNamed? y = some m) (h2 : s.vm.method? m = some meth) (h3 : meth.code = some c) (h4 : c.code = bytes)
    (h5 : (c.maxLocals == mx && c.exceptionTable.isEmpty && decide (c.maxStack ≤ mostOperands) && decide (meth.sig.returnType = rt) && !meth.locks && decide (parseMethodDescriptor y.desc = some meth.sig)) = true) : (Jvm.Cond.code y bytes mx rt).before a s = true := by
  simp only [Bool.and_eq_true, beq_iff_eq, Bool.not_eq_true', decide_eq_true_eq] at h5
  obtain ⟨⟨⟨⟨⟨g1, g2⟩, g3⟩, g4⟩, g5⟩, g6⟩ := h5
  simp [Cond.before, Cond.holds, Cond.value, h1, h2, h3, h4, g1, g2, g3, g4, g5, g6]
def isCode : Jvm.Cond → Bool
  | .code _ _ _ _ => true
  | _ => false
theorem all_split {L : List Jvm.Cond} {P : Jvm.Cond → Bool} (h1 : L.all (fun c => isCode c || P c) = true) (h2 : ∀ c ∈ L.filter isCode, P c = true) : L.all P = true := by
  refine List.all_eq_true.mpr fun c hc => ?_
  have h := List.all_eq_true.mp h1 c hc
  rcases Bool.eq_false_or_eq_true (isCode c) with hi | hi
  · exact h2 c (List.mem_filter.mpr ⟨hc, hi⟩)
  · simpa [hi] using h
set_option maxRecDepth 65536 in
theorem w_c0 : (Jvm.Cond.code x code maxLocals ret).before args0 about1 = true := code_word (m := ⟨1, 2⟩) (meth := k1m2) (c := k1c2) (by decide +kernel) rfl rfl rfl (by decide +kernel)
set_option maxRecDepth 65536 in
theorem w_c1 : (Jvm.Cond.code ({ cls := "com/example/vitruvius/vitruvius/profile/ValueSummary", name := "<init>", desc := "()V" } : Jvm.MethodName) prog_68_method_1_code (1 : Nat) (Option.none : Option Jvm.ClassFile.FieldType)).before args0 about1 = true := code_word (m := ⟨2, 0⟩) (meth := k2m0) (c := k2c0) (by decide +kernel) rfl rfl rfl (by decide +kernel)
set_option maxRecDepth 65536 in
theorem w_c2 : (Jvm.Cond.code ({ cls := "java/lang/Object", name := "<init>", desc := "()V" } : Jvm.MethodName) object_method_1_code (1 : Nat) (Option.none : Option Jvm.ClassFile.FieldType)).before args0 about1 = true := code_word (m := ⟨0, 0⟩) (meth := k0m0) (c := k0c0) (by decide +kernel) rfl rfl rfl (by decide +kernel)
set_option maxRecDepth 65536 in
theorem w_c3 : (Jvm.Cond.code ({ cls := "com/example/vitruvius/vitruvius/profile/ValueSummary", name := "add", desc := "(JJ)V" } : Jvm.MethodName) prog_68_method_6_code (5 : Nat) (Option.none : Option Jvm.ClassFile.FieldType)).before args0 about1 = true := code_word (m := ⟨2, 1⟩) (meth := k2m1) (c := k2c1) (by decide +kernel) rfl rfl rfl (by decide +kernel)
set_option maxRecDepth 65536 in
theorem w_c4 : (Jvm.Cond.code ({ cls := "com/example/vitruvius/vitruvius/profile/ValueSummaryAddPinLaw", name := "bit", desc := "(JI)J" } : Jvm.MethodName) method_2_code (3 : Nat) (Option.some Jvm.ClassFile.FieldType.long)).before args0 about1 = true := code_word (m := ⟨1, 1⟩) (meth := k1m1) (c := k1c1) (by decide +kernel) rfl rfl rfl (by decide +kernel)
set_option maxRecDepth 65536 in
theorem w_c5 : (Jvm.Cond.code ({ cls := "com/example/vitruvius/vitruvius/profile/ValueSummary", name := "values", desc := "()J" } : Jvm.MethodName) prog_68_method_8_code (1 : Nat) (Option.some Jvm.ClassFile.FieldType.long)).before args0 about1 = true := code_word (m := ⟨2, 2⟩) (meth := k2m2) (c := k2c2) (by decide +kernel) rfl rfl rfl (by decide +kernel)
set_option maxRecDepth 65536 in
theorem w_c6 : (Jvm.Cond.code ({ cls := "com/example/vitruvius/vitruvius/profile/ValueSummary", name := "uuids", desc := "()J" } : Jvm.MethodName) prog_68_method_9_code (1 : Nat) (Option.some Jvm.ClassFile.FieldType.long)).before args0 about1 = true := code_word (m := ⟨2, 3⟩) (meth := k2m3) (c := k2c3) (by decide +kernel) rfl rfl rfl (by decide +kernel)
set_option maxRecDepth 65536 in
theorem w_c7 : (Jvm.Cond.code ({ cls := "com/example/vitruvius/vitruvius/profile/ValueSummary", name := "addresses", desc := "()J" } : Jvm.MethodName) prog_68_method_10_code (1 : Nat) (Option.some Jvm.ClassFile.FieldType.long)).before args0 about1 = true := code_word (m := ⟨2, 4⟩) (meth := k2m4) (c := k2c4) (by decide +kernel) rfl rfl rfl (by decide +kernel)
set_option maxRecDepth 65536 in
theorem w_c8 : (Jvm.Cond.code ({ cls := "com/example/vitruvius/vitruvius/profile/ValueSummary", name := "uris", desc := "()J" } : Jvm.MethodName) prog_68_method_11_code (1 : Nat) (Option.some Jvm.ClassFile.FieldType.long)).before args0 about1 = true := code_word (m := ⟨2, 5⟩) (meth := k2m5) (c := k2c5) (by decide +kernel) rfl rfl rfl (by decide +kernel)
set_option maxRecDepth 65536 in
theorem w_c9 : (Jvm.Cond.code ({ cls := "com/example/vitruvius/vitruvius/profile/ValueSummary", name := "spaced", desc := "()J" } : Jvm.MethodName) prog_68_method_12_code (1 : Nat) (Option.some Jvm.ClassFile.FieldType.long)).before args0 about1 = true := code_word (m := ⟨2, 6⟩) (meth := k2m6) (c := k2c6) (by decide +kernel) rfl rfl rfl (by decide +kernel)
set_option maxRecDepth 65536 in
theorem w_c10 : (Jvm.Cond.code ({ cls := "com/example/vitruvius/vitruvius/profile/ValueSummary", name := "characters", desc := "()J" } : Jvm.MethodName) prog_68_method_13_code (1 : Nat) (Option.some Jvm.ClassFile.FieldType.long)).before args0 about1 = true := code_word (m := ⟨2, 7⟩) (meth := k2m7) (c := k2c7) (by decide +kernel) rfl rfl rfl (by decide +kernel)
set_option maxRecDepth 65536 in
theorem w_c11 : (Jvm.Cond.code ({ cls := "com/example/vitruvius/vitruvius/profile/ValueSummary", name := "maxBytes", desc := "()I" } : Jvm.MethodName) prog_68_method_14_code (1 : Nat) (Option.some Jvm.ClassFile.FieldType.int)).before args0 about1 = true := code_word (m := ⟨2, 8⟩) (meth := k2m8) (c := k2c8) (by decide +kernel) rfl rfl rfl (by decide +kernel)
def codes1 : List Jvm.Cond := [Jvm.Cond.code x code maxLocals ret, Jvm.Cond.code ({ cls := "com/example/vitruvius/vitruvius/profile/ValueSummary", name := "<init>", desc := "()V" } : Jvm.MethodName) prog_68_method_1_code (1 : Nat) (Option.none : Option Jvm.ClassFile.FieldType), Jvm.Cond.code ({ cls := "java/lang/Object", name := "<init>", desc := "()V" } : Jvm.MethodName) object_method_1_code (1 : Nat) (Option.none : Option Jvm.ClassFile.FieldType), Jvm.Cond.code ({ cls := "com/example/vitruvius/vitruvius/profile/ValueSummary", name := "add", desc := "(JJ)V" } : Jvm.MethodName) prog_68_method_6_code (5 : Nat) (Option.none : Option Jvm.ClassFile.FieldType), Jvm.Cond.code ({ cls := "com/example/vitruvius/vitruvius/profile/ValueSummaryAddPinLaw", name := "bit", desc := "(JI)J" } : Jvm.MethodName) method_2_code (3 : Nat) (Option.some Jvm.ClassFile.FieldType.long), Jvm.Cond.code ({ cls := "com/example/vitruvius/vitruvius/profile/ValueSummary", name := "values", desc := "()J" } : Jvm.MethodName) prog_68_method_8_code (1 : Nat) (Option.some Jvm.ClassFile.FieldType.long), Jvm.Cond.code ({ cls := "com/example/vitruvius/vitruvius/profile/ValueSummary", name := "uuids", desc := "()J" } : Jvm.MethodName) prog_68_method_9_code (1 : Nat) (Option.some Jvm.ClassFile.FieldType.long), Jvm.Cond.code ({ cls := "com/example/vitruvius/vitruvius/profile/ValueSummary", name := "addresses", desc := "()J" } : Jvm.MethodName) prog_68_method_10_code (1 : Nat) (Option.some Jvm.ClassFile.FieldType.long), Jvm.Cond.code ({ cls := "com/example/vitruvius/vitruvius/profile/ValueSummary", name := "uris", desc := "()J" } : Jvm.MethodName) prog_68_method_11_code (1 : Nat) (Option.some Jvm.ClassFile.FieldType.long), Jvm.Cond.code ({ cls := "com/example/vitruvius/vitruvius/profile/ValueSummary", name := "spaced", desc := "()J" } : Jvm.MethodName) prog_68_method_12_code (1 : Nat) (Option.some Jvm.ClassFile.FieldType.long), Jvm.Cond.code ({ cls := "com/example/vitruvius/vitruvius/profile/ValueSummary", name := "characters", desc := "()J" } : Jvm.MethodName) prog_68_method_13_code (1 : Nat) (Option.some Jvm.ClassFile.FieldType.long), Jvm.Cond.code ({ cls := "com/example/vitruvius/vitruvius/profile/ValueSummary", name := "maxBytes", desc := "()I" } : Jvm.MethodName) prog_68_method_14_code (1 : Nat) (Option.some Jvm.ClassFile.FieldType.int)]
set_option maxRecDepth 65536 in
theorem codes_eq : words1.filter isCode = codes1 := rfl
theorem w_codes : ∀ c ∈ words1.filter isCode, c.before args0 about1 = true := by
  rw [codes_eq]
  intro c hc
  simp only [codes1, List.mem_cons, List.not_mem_nil, or_false] at hc
  rcases hc with rfl | rfl | rfl | rfl | rfl | rfl | rfl | rfl | rfl | rfl | rfl | rfl
  · exact w_c0
  · exact w_c1
  · exact w_c2
  · exact w_c3
  · exact w_c4
  · exact w_c5
  · exact w_c6
  · exact w_c7
  · exact w_c8
  · exact w_c9
  · exact w_c10
  · exact w_c11
set_option maxRecDepth 65536 in
theorem w_t1 : (words1.take 24).all (fun c => isCode c || c.before args0 about1) = true := by decide +kernel
set_option maxRecDepth 65536 in
theorem w_t2 : ((words1.drop 24).take 24).all (fun c => isCode c || c.before args0 about1) = true := by decide +kernel
set_option maxRecDepth 65536 in
theorem w_t3 : (((words1.drop 24).drop 24).take 24).all (fun c => isCode c || c.before args0 about1) = true := by decide +kernel
set_option maxRecDepth 65536 in
theorem w_t4 : (((words1.drop 24).drop 24).drop 24).all (fun c => isCode c || c.before args0 about1) = true := by decide +kernel
theorem w_tables : (allAtoms (Jvm.Cond.code x code maxLocals ret :: tables_1)).before args0 about1 = true := by
  rw [allAtoms_all]
  show words1.all (fun c => c.before args0 about1) = true
  refine all_split ?_ w_codes
  rw [← List.take_append_drop 24 words1, List.all_append, w_t1, ← List.take_append_drop 24 (words1.drop 24), List.all_append, w_t2, ← List.take_append_drop 24 ((words1.drop 24).drop 24), List.all_append, w_t3, w_t4]
  rfl
set_option maxRecDepth 65536 in
theorem w_case : (Jvm.Cond.and given_1 narrow_1).before args0 about1 = true := by decide +kernel
theorem w_applies : (headSpec (Jvm.Cond.code x code maxLocals ret :: tables_1) room_1).applies x e0.platform about1 = true :=
  (Spec.applies_iff w_frames).mpr ⟨w_running, w_runnable, w_alone, w_named, w_hears, w_ripe, w_room, w_tables⟩
theorem atStart : AtStart classFile x code maxLocals ret World_1 tables_1 room_1 Calls_1 rest_1 Pre_1 launch0 p0 e0 about1 theMethod args0 below0 :=
  ⟨lists_1, trivial, launch0.admits_env _ _ _, launch0.least_env, fairChoices_fair.cas, fairChoices_fair.clock, w_frames, w_args, w_heap, w_applies, trivial, trivial, w_case⟩
end start1
theorem witness_1 : WitnessClaimed_1 := ⟨start1.p0, start1.e0, start1.about1, start1.theMethod, start1.args0, start1.below0, start1.atStart⟩
end Jvm.Pilot.@@N@@

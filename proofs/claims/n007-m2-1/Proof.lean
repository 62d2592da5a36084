import JvmDerived
import JvmDerived.Pilot.@@N@@Statement
import JvmDerived.Pilot.@@N@@Code
set_option linter.unusedVariables false
set_option linter.unusedSimpArgs false
namespace Jvm.OwnGo
open Jvm Jvm.ClassFile Sem Op Lib Jvm.Free Jvm.Stand Jvm.LawKit Jvm.RoadKit Bundle
/-- from A the invocation ends and returns what Q takes; what was written lies at n0 or above -/
def Go (p : Program) (e : Env) (below : List Frame) (s : State) (n0 k n : Nat) (Q : Option Value → Heap → Prop) (A : State) : Prop :=
  ∃ t o, Steps p.tables e below A t ∧ t.status = .running ∧ Ended t below o ∧ ∃ v L, o = .returned v ∧ (Q v t.heap ∧ Fr n0 L) ∧ FrameEnd s o t L k n
/-- what stays as it is through a walk -/
def Ctx (p : Program) (s : State) (m : MethodId) (meth : Method) (c : Code) (Z : State) (a0 : Array Value) (ws : List Jvm.Cond) (own nm : String) (bytes : ByteArray) (ml : Nat) (ret : Option FieldType) : Prop :=
  p.tables.exec = Jvm.exec ∧ Z.Warmed39 s.vm ∧ (∀ d ∈ ws, d.before a0 Z = true) ∧ s.vm.findClass own = some m.cls ∧ meth.name = nm ∧ c.code = bytes ∧ c.maxLocals = ml ∧ meth.sig.returnType = ret ∧ meth.locks = false
/-- where a walk stands -/
def St (p : Program) (l : Launch) (e : Env) (R : Room) (s : State) (m : MethodId) (args : Array Value) (below : List Frame) (meth : Method) (c : Code) (n0 : Nat) (T : State) (h : Heap) (cells slots : Nat) : Prop :=
  T.heap = h ∧ n0 ≤ s.heap.size ∧ ∃ locs, Fr n0 locs ∧ Stand p l e R s m args below meth c T locs cells slots
/-- an array: its elements, one by one -/
def AR (Z : State) (h : Heap) (a : Addr) (ty : FieldType) (vs : List Value) : Prop := ∃ c : Cell, Arr Z h a c ty ∧ c.slots = vs.toArray ∧ vs.length < 2 ^ 31
/-- a method's contract at one heap -/
def Con (l : Launch) (Z : State) (y : MethodName) (bytes : ByteArray) (ml : Nat) (ret : Option FieldType) (wx : List Jvm.Cond) (rm : Room) (n0 : Nat) (as : Array Value) (h0 : Heap) (Q : Option Value → Heap → Prop) : Prop :=
  MetFree l y (head1 (Jvm.Cond.code y bytes ml ret :: wx) rm) (fun a U => a = as ∧ Z.Warmed39 U.vm ∧ U.heap = h0) (fun _ _ _ _ _ => True) (fun _ U o U' => ∃ v L, o = .returned v ∧ (Q v U'.heap ∧ Fr n0 L) ∧ FrameEnd U o U' L rm.cells rm.slots)
section One
variable {p : Program} {l : Launch} {e : Env} {R : Room} {s : State} {m : MethodId} {args : Array Value} {below : List Frame} {meth : Method} {c : Code} {T : State} {h h' : Heap} {n0 cells slots k n : Nat} {Q : Option Value → Heap → Prop} {A B Z : State} {a0 : Array Value} {ws : List Jvm.Cond} {own nm : String} {bytes : ByteArray} {ml pc : Nat} {ret : Option FieldType} {Ls : Array Slot} {rest stk : List Value}
def ius (x y : Int32) : Int32 := (x.toUInt32 >>> (y &&& 31).toUInt32).toInt32
def lus (x : Int64) (y : Int32) : Int64 := (x.toUInt64 >>> (y &&& 0x3f).toInt64.toUInt64).toInt64
theorem tm0 (x d : Int) : x.tmod d = 0 ↔ x % d = 0 := ⟨fun h => Int.emod_eq_zero_of_dvd (Int.dvd_of_tmod_eq_zero h), fun h => Int.tmod_eq_zero_of_dvd (Int.dvd_of_emod_eq_zero h)⟩
theorem irr (x : Int32) : ¬ x < x := by rw [Int32.lt_iff_toInt_lt]; omega
theorem wd {ws : List Jvm.Cond} (i : Nat) {d : Jvm.Cond} (q : ws[i]? = some d) : d ∈ ws := List.mem_of_getElem? q
theorem Ctx.hx (C : Ctx p s m meth c Z a0 ws own nm bytes ml ret) : p.tables.exec = Jvm.exec := C.1
theorem Ctx.hZ (C : Ctx p s m meth c Z a0 ws own nm bytes ml ret) : Z.Warmed39 s.vm := C.2.1
theorem Ctx.w (C : Ctx p s m meth c Z a0 ws own nm bytes ml ret) {d : Jvm.Cond} (q : d ∈ ws) : d.before a0 Z = true := C.2.2.1 d q
theorem Ctx.hown (C : Ctx p s m meth c Z a0 ws own nm bytes ml ret) : s.vm.findClass own = some m.cls := C.2.2.2.1
theorem Ctx.hnm (C : Ctx p s m meth c Z a0 ws own nm bytes ml ret) : meth.name = nm := C.2.2.2.2.1
theorem Ctx.hby (C : Ctx p s m meth c Z a0 ws own nm bytes ml ret) : c.code = bytes := C.2.2.2.2.2.1
theorem Ctx.hml (C : Ctx p s m meth c Z a0 ws own nm bytes ml ret) : c.maxLocals = ml := C.2.2.2.2.2.2.1
theorem Ctx.hret (C : Ctx p s m meth c Z a0 ws own nm bytes ml ret) : meth.sig.returnType = ret := C.2.2.2.2.2.2.2.1
theorem Ctx.hlk (C : Ctx p s m meth c Z a0 ws own nm bytes ml ret) : meth.locks = false := C.2.2.2.2.2.2.2.2
theorem St.here (X : St p l e R s m args below meth c n0 T h cells slots) : At T m c below := by obtain ⟨-, -, _, -, X⟩ := X; exact X.here
theorem St.size (X : St p l e R s m args below meth c n0 T h cells slots) : n0 ≤ h.size := by
  obtain ⟨rfl, hz, _, -, X⟩ := X
  exact Nat.le_trans hz X.same.2.1
theorem St.mono (X : St p l e R s m args below meth c n0 T h cells slots) {cells' slots' : Nat} (h1 : cells ≤ cells') (h2 : slots ≤ slots') : St p l e R s m args below meth c n0 T h cells' slots' := by
  obtain ⟨e0, hz, locs, N, X⟩ := X
  exact ⟨e0, hz, locs, N, { X with same := X.same.mono h1 h2 }⟩
theorem Go.st (q : ∀ t, Steps p.tables e below B t → Steps p.tables e below A t) (g : Go p e below s n0 k n Q B) : Go p e below s n0 k n Q A := by
  obtain ⟨t, o, h1, r⟩ := g
  exact ⟨t, o, q t h1, r⟩
theorem Go.tr (q : Steps p.tables e below A B) (g : Go p e below s n0 k n Q B) : Go p e below s n0 k n Q A := Go.st (fun _ r => q.trans r) g
theorem Con.mk {y : MethodName} {wx : List Jvm.Cond} {rm : Room} {as : Array Value} {h0 : Heap} (hp : plainFor y = true) (hw : ∀ d ∈ ws, d.before a0 Z = true) (hz : n0 ≤ h0.size)
    (H : ∀ (p : Program) (e : Env) (s : State) (m : MethodId) (below : List Frame) (meth : Method) (c : Code) (T : State), Ctx p s m meth c Z a0 ws y.cls y.name bytes ml ret → St p l e rm s m as below meth c n0 T h0 0 0 → Go p e below s n0 rm.cells rm.slots Q (T.setTop (entryFrame m as ml))) : Con l Z y bytes ml ret wx rm n0 as h0 Q := by
  refine MetFree.of_bodySF hp hisR ?_
  intro p e s m args below meth c s₁ Bd hml hP hK
  obtain ⟨rfl, hZ, hh⟩ := hP
  have hE : s₁.heap = h0 := by rw [← hh, Bd.state]; rfl
  exact H p e s m below meth c s₁ ⟨Bd.exec, hZ, hw, findClass_of_methodNamed Bd.named, (name_of_methodNamed Bd.named Bd.method).1, Bd.bytes, hml, Bd.returns, BodyLoose.notSynchronized Bd⟩ ⟨hE, by rw [hh]; exact hz, [], Fr.nil n0, Stand.of_body Bd⟩
theorem Go.retAny (C : Ctx p s m meth c Z a0 ws own nm bytes ml ret) (X : St p l e R s m args below meth c n0 T h cells slots) {w : Value} {t : FieldType} {i : Instr} (hret : ret = some t) (hn : narrow t w = w)
    (hi : (i = .ireturn ∧ (t = .int ∨ t = .boolean ∨ t = .byte ∨ t = .char ∨ t = .short) ∧ ∃ z, w = .int z) ∨ (i = .lreturn ∧ t = .long ∧ ∃ z, w = .long z) ∨ (i = .dreturn ∧ t = .double ∧ ∃ z, w = .double z) ∨ (i = .freturn ∧ t = .float ∧ ∃ z, w = .float z) ∨ (i = .areturn ∧ t.isReference = true ∧ w.isRef = true))
    (hd : decode bytes pc = .ok (i, 1)) (hQ : Q (some w) h) (hk : cells ≤ k) (hs : slots ≤ n) : Go p e below s n0 k n Q (T.setTop (mkF m pc Ls (w :: rest))) := by
  obtain ⟨rfl, hz, locs, N, X⟩ := X
  obtain ⟨fs, hr, hrun, hended, hW, hsame⟩ := X.leave (v := some w) (fun q => by rw [C.hret, hret] at q; cases q) C.hlk
  exact ⟨_, _, retOut X C.hx (C.hret.trans hret) hn hi (hb C.hby hd) hr, hrun, hended, _, _, rfl, ⟨hQ, N⟩, ⟨_, rfl⟩, hW, hsame.mono hk hs⟩
theorem Go.retI (C : Ctx p s m meth c Z a0 ws own nm bytes ml (some .int)) (X : St p l e R s m args below meth c n0 T h cells slots) {z : Int32} (hd : decode bytes pc = .ok (.ireturn, 1)) (hQ : Q (some (.int z)) h) (hk : cells ≤ k) (hs : slots ≤ n) : Go p e below s n0 k n Q (T.setTop (mkF m pc Ls (.int z :: rest))) :=
  Go.retAny C X rfl rfl (Or.inl ⟨rfl, Or.inl rfl, _, rfl⟩) hd hQ hk hs
theorem Go.retZ (C : Ctx p s m meth c Z a0 ws own nm bytes ml (some .boolean)) (X : St p l e R s m args below meth c n0 T h cells slots) {z : Int32} (hz : z = 0 ∨ z = 1) (hd : decode bytes pc = .ok (.ireturn, 1)) (hQ : Q (some (.int z)) h) (hk : cells ≤ k) (hs : slots ≤ n) : Go p e below s n0 k n Q (T.setTop (mkF m pc Ls (.int z :: rest))) :=
  Go.retAny C X rfl (by rcases hz with rfl | rfl <;> rfl) (Or.inl ⟨rfl, Or.inr (Or.inl rfl), _, rfl⟩) hd hQ hk hs
theorem Go.retJ (C : Ctx p s m meth c Z a0 ws own nm bytes ml (some .long)) (X : St p l e R s m args below meth c n0 T h cells slots) {z : Int64} (hd : decode bytes pc = .ok (.lreturn, 1)) (hQ : Q (some (.long z)) h) (hk : cells ≤ k) (hs : slots ≤ n) : Go p e below s n0 k n Q (T.setTop (mkF m pc Ls (.long z :: rest))) :=
  Go.retAny C X rfl rfl (Or.inr (Or.inl ⟨rfl, rfl, _, rfl⟩)) hd hQ hk hs
theorem Go.retA {t : FieldType} (C : Ctx p s m meth c Z a0 ws own nm bytes ml (some t)) (X : St p l e R s m args below meth c n0 T h cells slots) {v : Value} (ht : t.isReference = true) (hv : v.isRef = true) (hd : decode bytes pc = .ok (.areturn, 1)) (hQ : Q (some v) h) (hk : cells ≤ k) (hs : slots ≤ n) : Go p e below s n0 k n Q (T.setTop (mkF m pc Ls (v :: rest))) :=
  Go.retAny C X rfl (by cases t <;> cases v <;> first | rfl | (simp [FieldType.isReference] at ht; done) | (simp [Value.isRef] at hv; done)) (Or.inr (Or.inr (Or.inr (Or.inr ⟨rfl, ht, hv⟩)))) hd hQ hk hs
theorem Go.retV (C : Ctx p s m meth c Z a0 ws own nm bytes ml none) (X : St p l e R s m args below meth c n0 T h cells slots) (hd : decode bytes pc = .ok (.return_, 1)) (hQ : Q none h) (hk : cells ≤ k) (hs : slots ≤ n) : Go p e below s n0 k n Q (T.setTop (mkF m pc Ls [])) := by
  obtain ⟨rfl, hz, locs, N, X⟩ := X
  obtain ⟨fs, hr, hrun, hended, hW, hsame⟩ := X.leave (v := none) (fun _ => rfl) C.hlk
  exact ⟨_, _, X.returnOut C.hx C.hret (hb C.hby hd) hr, hrun, hended, _, _, rfl, ⟨hQ, N⟩, ⟨_, rfl⟩, hW, hsame.mono hk hs⟩
theorem Go.if_eq (C : Ctx p s m meth c Z a0 ws own nm bytes ml ret) (X : St p l e R s m args below meth c n0 T h cells slots) {x : Int32} {o : Int} {pc' : Nat} (hd : decode bytes pc = .ok (.ifCond .eq o, 3)) (ho : 0 ≤ (pc : Int) + o) (hp : ((pc : Int) + o).toNat = pc') (Y : x = 0 → Go p e below s n0 k n Q (T.setTop (mkF m pc' Ls rest))) (N : ¬ x = 0 → Go p e below s n0 k n Q (T.setTop (mkF m (pc + 3) Ls rest))) : Go p e below s n0 k n Q (T.setTop (mkF m pc Ls (.int x :: rest))) := by
  by_cases q : x = 0
  · exact Go.st (fun _ => XS.ifYes X.here C.hx rfl rfl (hb C.hby hd) rfl (by simpa [ifCond.holds] using q) ho hp) (Y q)
  · exact Go.st (fun _ => XS.ifNo X.here C.hx rfl (hb C.hby hd) rfl (by simpa [ifCond.holds] using q) ) (N q)
theorem Go.icmp_eq (C : Ctx p s m meth c Z a0 ws own nm bytes ml ret) (X : St p l e R s m args below meth c n0 T h cells slots) {x y : Int32} {o : Int} {pc' : Nat} (hd : decode bytes pc = .ok (.if_icmp .eq o, 3)) (ho : 0 ≤ (pc : Int) + o) (hp : ((pc : Int) + o).toNat = pc') (Y : x = y → Go p e below s n0 k n Q (T.setTop (mkF m pc' Ls rest))) (N : ¬ x = y → Go p e below s n0 k n Q (T.setTop (mkF m (pc + 3) Ls rest))) : Go p e below s n0 k n Q (T.setTop (mkF m pc Ls (.int y :: .int x :: rest))) := by
  by_cases q : x = y
  · exact Go.st (fun _ => XS.icmpYes X.here C.hx rfl rfl (hb C.hby hd) rfl (by simpa [if_icmp.holds] using q) ho hp) (Y q)
  · exact Go.st (fun _ => XS.icmpNo X.here C.hx rfl (hb C.hby hd) rfl (by simpa [if_icmp.holds] using q) ) (N q)
theorem Go.if_ne (C : Ctx p s m meth c Z a0 ws own nm bytes ml ret) (X : St p l e R s m args below meth c n0 T h cells slots) {x : Int32} {o : Int} {pc' : Nat} (hd : decode bytes pc = .ok (.ifCond .ne o, 3)) (ho : 0 ≤ (pc : Int) + o) (hp : ((pc : Int) + o).toNat = pc') (Y : ¬ x = 0 → Go p e below s n0 k n Q (T.setTop (mkF m pc' Ls rest))) (N : x = 0 → Go p e below s n0 k n Q (T.setTop (mkF m (pc + 3) Ls rest))) : Go p e below s n0 k n Q (T.setTop (mkF m pc Ls (.int x :: rest))) := by
  by_cases q : x = 0
  · exact Go.st (fun _ => XS.ifNo X.here C.hx rfl (hb C.hby hd) rfl (by simpa [ifCond.holds] using q) ) (N q)
  · exact Go.st (fun _ => XS.ifYes X.here C.hx rfl rfl (hb C.hby hd) rfl (by simpa [ifCond.holds] using q) ho hp) (Y q)
theorem Go.icmp_ne (C : Ctx p s m meth c Z a0 ws own nm bytes ml ret) (X : St p l e R s m args below meth c n0 T h cells slots) {x y : Int32} {o : Int} {pc' : Nat} (hd : decode bytes pc = .ok (.if_icmp .ne o, 3)) (ho : 0 ≤ (pc : Int) + o) (hp : ((pc : Int) + o).toNat = pc') (Y : ¬ x = y → Go p e below s n0 k n Q (T.setTop (mkF m pc' Ls rest))) (N : x = y → Go p e below s n0 k n Q (T.setTop (mkF m (pc + 3) Ls rest))) : Go p e below s n0 k n Q (T.setTop (mkF m pc Ls (.int y :: .int x :: rest))) := by
  by_cases q : x = y
  · exact Go.st (fun _ => XS.icmpNo X.here C.hx rfl (hb C.hby hd) rfl (by simpa [if_icmp.holds] using q) ) (N q)
  · exact Go.st (fun _ => XS.icmpYes X.here C.hx rfl rfl (hb C.hby hd) rfl (by simpa [if_icmp.holds] using q) ho hp) (Y q)
theorem Go.if_lt (C : Ctx p s m meth c Z a0 ws own nm bytes ml ret) (X : St p l e R s m args below meth c n0 T h cells slots) {x : Int32} {o : Int} {pc' : Nat} (hd : decode bytes pc = .ok (.ifCond .lt o, 3)) (ho : 0 ≤ (pc : Int) + o) (hp : ((pc : Int) + o).toNat = pc') (Y : x < 0 → Go p e below s n0 k n Q (T.setTop (mkF m pc' Ls rest))) (N : ¬ x < 0 → Go p e below s n0 k n Q (T.setTop (mkF m (pc + 3) Ls rest))) : Go p e below s n0 k n Q (T.setTop (mkF m pc Ls (.int x :: rest))) := by
  by_cases q : x < 0
  · exact Go.st (fun _ => XS.ifYes X.here C.hx rfl rfl (hb C.hby hd) rfl (by simpa [ifCond.holds] using q) ho hp) (Y q)
  · exact Go.st (fun _ => XS.ifNo X.here C.hx rfl (hb C.hby hd) rfl (by simpa [ifCond.holds] using q) ) (N q)
theorem Go.icmp_lt (C : Ctx p s m meth c Z a0 ws own nm bytes ml ret) (X : St p l e R s m args below meth c n0 T h cells slots) {x y : Int32} {o : Int} {pc' : Nat} (hd : decode bytes pc = .ok (.if_icmp .lt o, 3)) (ho : 0 ≤ (pc : Int) + o) (hp : ((pc : Int) + o).toNat = pc') (Y : x < y → Go p e below s n0 k n Q (T.setTop (mkF m pc' Ls rest))) (N : ¬ x < y → Go p e below s n0 k n Q (T.setTop (mkF m (pc + 3) Ls rest))) : Go p e below s n0 k n Q (T.setTop (mkF m pc Ls (.int y :: .int x :: rest))) := by
  by_cases q : x < y
  · exact Go.st (fun _ => XS.icmpYes X.here C.hx rfl rfl (hb C.hby hd) rfl (by simpa [if_icmp.holds] using q) ho hp) (Y q)
  · exact Go.st (fun _ => XS.icmpNo X.here C.hx rfl (hb C.hby hd) rfl (by simpa [if_icmp.holds] using q) ) (N q)
theorem Go.if_ge (C : Ctx p s m meth c Z a0 ws own nm bytes ml ret) (X : St p l e R s m args below meth c n0 T h cells slots) {x : Int32} {o : Int} {pc' : Nat} (hd : decode bytes pc = .ok (.ifCond .ge o, 3)) (ho : 0 ≤ (pc : Int) + o) (hp : ((pc : Int) + o).toNat = pc') (Y : ¬ x < 0 → Go p e below s n0 k n Q (T.setTop (mkF m pc' Ls rest))) (N : x < 0 → Go p e below s n0 k n Q (T.setTop (mkF m (pc + 3) Ls rest))) : Go p e below s n0 k n Q (T.setTop (mkF m pc Ls (.int x :: rest))) := by
  by_cases q : x < 0
  · exact Go.st (fun _ => XS.ifNo X.here C.hx rfl (hb C.hby hd) rfl (by simpa [ifCond.holds, Int32.not_lt] using q) ) (N q)
  · exact Go.st (fun _ => XS.ifYes X.here C.hx rfl rfl (hb C.hby hd) rfl (by simpa [ifCond.holds, Int32.not_lt] using q) ho hp) (Y q)
theorem Go.icmp_ge (C : Ctx p s m meth c Z a0 ws own nm bytes ml ret) (X : St p l e R s m args below meth c n0 T h cells slots) {x y : Int32} {o : Int} {pc' : Nat} (hd : decode bytes pc = .ok (.if_icmp .ge o, 3)) (ho : 0 ≤ (pc : Int) + o) (hp : ((pc : Int) + o).toNat = pc') (Y : ¬ x < y → Go p e below s n0 k n Q (T.setTop (mkF m pc' Ls rest))) (N : x < y → Go p e below s n0 k n Q (T.setTop (mkF m (pc + 3) Ls rest))) : Go p e below s n0 k n Q (T.setTop (mkF m pc Ls (.int y :: .int x :: rest))) := by
  by_cases q : x < y
  · exact Go.st (fun _ => XS.icmpNo X.here C.hx rfl (hb C.hby hd) rfl (by simpa [if_icmp.holds, Int32.not_lt] using q) ) (N q)
  · exact Go.st (fun _ => XS.icmpYes X.here C.hx rfl rfl (hb C.hby hd) rfl (by simpa [if_icmp.holds, Int32.not_lt] using q) ho hp) (Y q)
theorem Go.if_gt (C : Ctx p s m meth c Z a0 ws own nm bytes ml ret) (X : St p l e R s m args below meth c n0 T h cells slots) {x : Int32} {o : Int} {pc' : Nat} (hd : decode bytes pc = .ok (.ifCond .gt o, 3)) (ho : 0 ≤ (pc : Int) + o) (hp : ((pc : Int) + o).toNat = pc') (Y : 0 < x → Go p e below s n0 k n Q (T.setTop (mkF m pc' Ls rest))) (N : ¬ 0 < x → Go p e below s n0 k n Q (T.setTop (mkF m (pc + 3) Ls rest))) : Go p e below s n0 k n Q (T.setTop (mkF m pc Ls (.int x :: rest))) := by
  by_cases q : 0 < x
  · exact Go.st (fun _ => XS.ifYes X.here C.hx rfl rfl (hb C.hby hd) rfl (by simpa [ifCond.holds] using q) ho hp) (Y q)
  · exact Go.st (fun _ => XS.ifNo X.here C.hx rfl (hb C.hby hd) rfl (by simpa [ifCond.holds] using q) ) (N q)
theorem Go.icmp_gt (C : Ctx p s m meth c Z a0 ws own nm bytes ml ret) (X : St p l e R s m args below meth c n0 T h cells slots) {x y : Int32} {o : Int} {pc' : Nat} (hd : decode bytes pc = .ok (.if_icmp .gt o, 3)) (ho : 0 ≤ (pc : Int) + o) (hp : ((pc : Int) + o).toNat = pc') (Y : y < x → Go p e below s n0 k n Q (T.setTop (mkF m pc' Ls rest))) (N : ¬ y < x → Go p e below s n0 k n Q (T.setTop (mkF m (pc + 3) Ls rest))) : Go p e below s n0 k n Q (T.setTop (mkF m pc Ls (.int y :: .int x :: rest))) := by
  by_cases q : y < x
  · exact Go.st (fun _ => XS.icmpYes X.here C.hx rfl rfl (hb C.hby hd) rfl (by simpa [if_icmp.holds] using q) ho hp) (Y q)
  · exact Go.st (fun _ => XS.icmpNo X.here C.hx rfl (hb C.hby hd) rfl (by simpa [if_icmp.holds] using q) ) (N q)
theorem Go.if_le (C : Ctx p s m meth c Z a0 ws own nm bytes ml ret) (X : St p l e R s m args below meth c n0 T h cells slots) {x : Int32} {o : Int} {pc' : Nat} (hd : decode bytes pc = .ok (.ifCond .le o, 3)) (ho : 0 ≤ (pc : Int) + o) (hp : ((pc : Int) + o).toNat = pc') (Y : ¬ 0 < x → Go p e below s n0 k n Q (T.setTop (mkF m pc' Ls rest))) (N : 0 < x → Go p e below s n0 k n Q (T.setTop (mkF m (pc + 3) Ls rest))) : Go p e below s n0 k n Q (T.setTop (mkF m pc Ls (.int x :: rest))) := by
  by_cases q : 0 < x
  · exact Go.st (fun _ => XS.ifNo X.here C.hx rfl (hb C.hby hd) rfl (by simpa [ifCond.holds, Int32.not_lt] using q) ) (N q)
  · exact Go.st (fun _ => XS.ifYes X.here C.hx rfl rfl (hb C.hby hd) rfl (by simpa [ifCond.holds, Int32.not_lt] using q) ho hp) (Y q)
theorem Go.icmp_le (C : Ctx p s m meth c Z a0 ws own nm bytes ml ret) (X : St p l e R s m args below meth c n0 T h cells slots) {x y : Int32} {o : Int} {pc' : Nat} (hd : decode bytes pc = .ok (.if_icmp .le o, 3)) (ho : 0 ≤ (pc : Int) + o) (hp : ((pc : Int) + o).toNat = pc') (Y : ¬ y < x → Go p e below s n0 k n Q (T.setTop (mkF m pc' Ls rest))) (N : y < x → Go p e below s n0 k n Q (T.setTop (mkF m (pc + 3) Ls rest))) : Go p e below s n0 k n Q (T.setTop (mkF m pc Ls (.int y :: .int x :: rest))) := by
  by_cases q : y < x
  · exact Go.st (fun _ => XS.icmpNo X.here C.hx rfl (hb C.hby hd) rfl (by simpa [if_icmp.holds, Int32.not_lt] using q) ) (N q)
  · exact Go.st (fun _ => XS.icmpYes X.here C.hx rfl rfl (hb C.hby hd) rfl (by simpa [if_icmp.holds, Int32.not_lt] using q) ho hp) (Y q)
theorem Go.lif_eq (C : Ctx p s m meth c Z a0 ws own nm bytes ml ret) (X : St p l e R s m args below meth c n0 T h cells slots) {x y : Int64} {o : Int} {pc' : Nat} (hd : decode bytes pc = .ok (.ifCond .eq o, 3)) (ho : 0 ≤ (pc : Int) + o) (hp : ((pc : Int) + o).toNat = pc') (Y : x = y → Go p e below s n0 k n Q (T.setTop (mkF m pc' Ls rest))) (N : ¬ x = y → Go p e below s n0 k n Q (T.setTop (mkF m (pc + 3) Ls rest))) : Go p e below s n0 k n Q (T.setTop (mkF m pc Ls (.int (lcmpW x y) :: rest))) := by
  have q := lc_eq x y
  rw [← lcW] at q
  exact Go.if_eq C X hd ho hp (fun r => Y (q.mp r)) (fun r => N (fun u => r (q.mpr u)))
theorem Go.lif_ne (C : Ctx p s m meth c Z a0 ws own nm bytes ml ret) (X : St p l e R s m args below meth c n0 T h cells slots) {x y : Int64} {o : Int} {pc' : Nat} (hd : decode bytes pc = .ok (.ifCond .ne o, 3)) (ho : 0 ≤ (pc : Int) + o) (hp : ((pc : Int) + o).toNat = pc') (Y : ¬ x = y → Go p e below s n0 k n Q (T.setTop (mkF m pc' Ls rest))) (N : x = y → Go p e below s n0 k n Q (T.setTop (mkF m (pc + 3) Ls rest))) : Go p e below s n0 k n Q (T.setTop (mkF m pc Ls (.int (lcmpW x y) :: rest))) := by
  have q := lc_eq x y
  rw [← lcW] at q
  exact Go.if_ne C X hd ho hp (fun r => Y (fun u => r (q.mpr u))) (fun r => N (q.mp r))
theorem Go.lif_lt (C : Ctx p s m meth c Z a0 ws own nm bytes ml ret) (X : St p l e R s m args below meth c n0 T h cells slots) {x y : Int64} {o : Int} {pc' : Nat} (hd : decode bytes pc = .ok (.ifCond .lt o, 3)) (ho : 0 ≤ (pc : Int) + o) (hp : ((pc : Int) + o).toNat = pc') (Y : x < y → Go p e below s n0 k n Q (T.setTop (mkF m pc' Ls rest))) (N : ¬ x < y → Go p e below s n0 k n Q (T.setTop (mkF m (pc + 3) Ls rest))) : Go p e below s n0 k n Q (T.setTop (mkF m pc Ls (.int (lcmpW x y) :: rest))) := by
  have q := lc_lt x y
  rw [← lcW] at q
  exact Go.if_lt C X hd ho hp (fun r => Y (q.mp r)) (fun r => N (fun u => r (q.mpr u)))
theorem Go.lif_ge (C : Ctx p s m meth c Z a0 ws own nm bytes ml ret) (X : St p l e R s m args below meth c n0 T h cells slots) {x y : Int64} {o : Int} {pc' : Nat} (hd : decode bytes pc = .ok (.ifCond .ge o, 3)) (ho : 0 ≤ (pc : Int) + o) (hp : ((pc : Int) + o).toNat = pc') (Y : ¬ x < y → Go p e below s n0 k n Q (T.setTop (mkF m pc' Ls rest))) (N : x < y → Go p e below s n0 k n Q (T.setTop (mkF m (pc + 3) Ls rest))) : Go p e below s n0 k n Q (T.setTop (mkF m pc Ls (.int (lcmpW x y) :: rest))) := by
  have q := lc_lt x y
  rw [← lcW] at q
  exact Go.if_ge C X hd ho hp (fun r => Y (fun u => r (q.mpr u))) (fun r => N (q.mp r))
theorem Go.lif_gt (C : Ctx p s m meth c Z a0 ws own nm bytes ml ret) (X : St p l e R s m args below meth c n0 T h cells slots) {x y : Int64} {o : Int} {pc' : Nat} (hd : decode bytes pc = .ok (.ifCond .gt o, 3)) (ho : 0 ≤ (pc : Int) + o) (hp : ((pc : Int) + o).toNat = pc') (Y : y < x → Go p e below s n0 k n Q (T.setTop (mkF m pc' Ls rest))) (N : ¬ y < x → Go p e below s n0 k n Q (T.setTop (mkF m (pc + 3) Ls rest))) : Go p e below s n0 k n Q (T.setTop (mkF m pc Ls (.int (lcmpW x y) :: rest))) := by
  have q := lc_gt x y
  rw [← lcW] at q
  exact Go.if_gt C X hd ho hp (fun r => Y (q.mp r)) (fun r => N (fun u => r (q.mpr u)))
theorem Go.lif_le (C : Ctx p s m meth c Z a0 ws own nm bytes ml ret) (X : St p l e R s m args below meth c n0 T h cells slots) {x y : Int64} {o : Int} {pc' : Nat} (hd : decode bytes pc = .ok (.ifCond .le o, 3)) (ho : 0 ≤ (pc : Int) + o) (hp : ((pc : Int) + o).toNat = pc') (Y : ¬ y < x → Go p e below s n0 k n Q (T.setTop (mkF m pc' Ls rest))) (N : y < x → Go p e below s n0 k n Q (T.setTop (mkF m (pc + 3) Ls rest))) : Go p e below s n0 k n Q (T.setTop (mkF m pc Ls (.int (lcmpW x y) :: rest))) := by
  have q := lc_gt x y
  rw [← lcW] at q
  exact Go.if_le C X hd ho hp (fun r => Y (fun u => r (q.mpr u))) (fun r => N (q.mp r))
theorem Go.acmp_eq (C : Ctx p s m meth c Z a0 ws own nm bytes ml ret) (X : St p l e R s m args below meth c n0 T h cells slots) {x y : Value} (h1 : x.isRef = true) (h2 : y.isRef = true) {o : Int} {pc' : Nat} (hd : decode bytes pc = .ok (.if_acmp .eq o, 3)) (ho : 0 ≤ (pc : Int) + o) (hp : ((pc : Int) + o).toNat = pc') (Y : x = y → Go p e below s n0 k n Q (T.setTop (mkF m pc' Ls rest))) (N : ¬ x = y → Go p e below s n0 k n Q (T.setTop (mkF m (pc + 3) Ls rest))) : Go p e below s n0 k n Q (T.setTop (mkF m pc Ls (y :: x :: rest))) := by
  obtain ⟨-, -, _, -, X⟩ := X
  by_cases q : x = y
  · exact Go.st (fun _ => Jvm.RoadKit.acmp (g := mkF m pc Ls (y :: x :: rest)) X C.hx rfl h1 h2 (same := true) rfl (hb C.hby hd) rfl (decide_eq_true q) ho (by rw [← hp]; rfl)) (Y q)
  · exact Go.st (fun _ => Jvm.RoadKit.acmp (g := mkF m pc Ls (y :: x :: rest)) X C.hx rfl h1 h2 (same := false) rfl (hb C.hby hd) rfl (decide_eq_false q) ho (by rfl)) (N q)
theorem Go.acmp_ne (C : Ctx p s m meth c Z a0 ws own nm bytes ml ret) (X : St p l e R s m args below meth c n0 T h cells slots) {x y : Value} (h1 : x.isRef = true) (h2 : y.isRef = true) {o : Int} {pc' : Nat} (hd : decode bytes pc = .ok (.if_acmp .ne o, 3)) (ho : 0 ≤ (pc : Int) + o) (hp : ((pc : Int) + o).toNat = pc') (Y : ¬ x = y → Go p e below s n0 k n Q (T.setTop (mkF m pc' Ls rest))) (N : x = y → Go p e below s n0 k n Q (T.setTop (mkF m (pc + 3) Ls rest))) : Go p e below s n0 k n Q (T.setTop (mkF m pc Ls (y :: x :: rest))) := by
  obtain ⟨-, -, _, -, X⟩ := X
  by_cases q : x = y
  · exact Go.st (fun _ => Jvm.RoadKit.acmp (g := mkF m pc Ls (y :: x :: rest)) X C.hx rfl h1 h2 (same := true) rfl (hb C.hby hd) rfl (decide_eq_true q) ho (by rfl)) (N q)
  · exact Go.st (fun _ => Jvm.RoadKit.acmp (g := mkF m pc Ls (y :: x :: rest)) X C.hx rfl h1 h2 (same := false) rfl (hb C.hby hd) rfl (decide_eq_false q) ho (by rw [← hp]; rfl)) (Y q)
theorem Go.getF (C : Ctx p s m meth c Z a0 ws own nm bytes ml ret) (X : St p l e R s m args below meth c n0 T h cells slots) {O n1 d : String} {i : Nat} {a : Addr} {v : Value} (w : Jvm.Cond.fieldLink own i O n1 d ∈ ws) (F : Fld Z h a O n1 d v) (hd : decode bytes pc = .ok (.getfield i, 3)) (K : ∀ T', St p l e R s m args below meth c n0 T' h cells slots → Go p e below s n0 k n Q (T'.setTop (mkF m (pc + 3) Ls (v :: rest)))) : Go p e below s n0 k n Q (T.setTop (mkF m pc Ls (.ref a :: rest))) := by
  obtain ⟨e0, hz, locs, N, X⟩ := X
  obtain ⟨T', X', e', st⟩ := Jvm.RoadKit.getF X C.hx C.hZ C.hown (host := "") (Or.inl (C.w w)) Via.refl e0 F (g := mkF m pc Ls (.ref a :: rest)) rfl rfl (hb C.hby hd)
  exact Go.st st (K T' ⟨e', hz, locs, N, X'⟩)
theorem Go.getS (C : Ctx p s m meth c Z a0 ws own nm bytes ml ret) (X : St p l e R s m args below meth c n0 T h cells slots) {O n1 d : String} {i : Nat} {v : Value} (w : Jvm.Cond.fieldLink own i O n1 d ∈ ws) (F : Sta Z h O n1 d v) (hd : decode bytes pc = .ok (.getstatic i, 3)) (K : ∀ T', St p l e R s m args below meth c n0 T' h cells slots → Go p e below s n0 k n Q (T'.setTop (mkF m (pc + 3) Ls (v :: stk)))) : Go p e below s n0 k n Q (T.setTop (mkF m pc Ls stk)) := by
  obtain ⟨e0, hz, locs, N, X⟩ := X
  obtain ⟨T', X', e', st⟩ := Jvm.RoadKit.getS2 X C.hx C.hZ C.hown (host := "") (Or.inl (C.w w)) Via.refl e0 F (g := mkF m pc Ls stk) rfl (hb C.hby hd)
  exact Go.st st (K T' ⟨e', hz, locs, N, X'⟩)
theorem Go.putF (C : Ctx p s m meth c Z a0 ws own nm bytes ml ret) (X : St p l e R s m args below meth c n0 T h cells slots) {O n1 d C1 : String} {i kk : Nat} {ty : FieldType} {a : Addr} {v old : Value} (w : Jvm.Cond.fieldLink own i O n1 d ∈ ws) (F : Fld Z h a O n1 d old) (E : Exa Z h a C1) (L : Jvm.Cond.lays C1 O n1 d ∈ ws ∨ (Jvm.Cond.laysFinal C1 O n1 d ∈ ws ∧ own = O ∧ nm = "<init>")) (wi : Jvm.Cond.instantiable C1 kk ∈ ws)
    (hty : parseFieldDescriptor d = some ty) (hn : narrow ty v = v) (hf : fits ty v = true) (ha : n0 ≤ a) (hd : decode bytes pc = .ok (.putfield i, 3)) (K : ∀ T' h', St p l e R s m args below meth c n0 T' h' cells slots → Wr h h' a (Jvm.RoadKit.slotOf Z O n1 d) v → Fld Z h' a O n1 d v → Go p e below s n0 k n Q (T'.setTop (mkF m (pc + 3) Ls rest))) : Go p e below s n0 k n Q (T.setTop (mkF m pc Ls (v :: .ref a :: rest))) := by
  obtain ⟨e0, hz, locs, N, X⟩ := X
  obtain ⟨T', h', X', e', W, st⟩ := Jvm.RoadKit.putF X C.hx C.hZ C.hown (host := "") (Or.inl (C.w w)) Via.refl e0 F E (L.imp (fun q => C.w q) (fun q => ⟨C.w q.1, q.2.1, C.hnm.trans q.2.2⟩)) (C.w wi) hty hn hf (g := mkF m pc Ls (v :: .ref a :: rest)) rfl rfl (hb C.hby hd)
  exact Go.st st (K T' h' ⟨e', hz, _, Fr.snoc X' N ha, X'⟩ W (F.same W))
theorem Go.newO (C : Ctx p s m meth c Z a0 ws own nm bytes ml ret) (X : St p l e R s m args below meth c n0 T h cells slots) {C1 : String} {i kk : Nat} (w : Jvm.Cond.classLink own i C1 ∈ ws) (wi : Jvm.Cond.instantiable C1 kk ∈ ws) (wz : Jvm.Cond.initialized C1 ∈ ws) (hd : decode bytes pc = .ok (.new i, 3)) (hc : cells + 1 ≤ R.cells) (hl : slots + kk ≤ R.slots)
    (K : ∀ T' h' b, h.size = b → n0 ≤ b → St p l e R s m args below meth c n0 T' h' (cells + 1) (slots + kk) → Ext h h' → Exa Z h' b C1 → (∀ {O n1 d : String} {ty : FieldType}, (Jvm.Cond.lays C1 O n1 d ∈ ws ∨ Jvm.Cond.laysFinal C1 O n1 d ∈ ws) → parseFieldDescriptor d = some ty → Fld Z h' b O n1 d (defaultValue ty)) → Go p e below s n0 k n Q (T'.setTop (mkF m (pc + 3) Ls (.ref b :: stk)))) : Go p e below s n0 k n Q (T.setTop (mkF m pc Ls stk)) := by
  have hs := X.size
  obtain ⟨e0, hz, locs, N, X⟩ := X
  obtain ⟨T', h', X', e', E, E1, D, -, st⟩ := Jvm.RoadKit.newO X C.hx C.hZ C.hown (C.w w) (C.w wi) (C.w wz) e0 (g := mkF m pc Ls stk) rfl (hb C.hby hd) hc hl
  exact Go.st st (K T' h' _ rfl hs ⟨e', hz, _, N, X'⟩ E E1 (fun q r => D (q.imp (fun q => C.w q) (fun q => C.w q)) r))
theorem AR.of {cA : ClassId} {ty : FieldType} {z : Int32} {a : Addr} (F : Arr Z h a (newA cA ty z) ty) (q : ¬ z < 0) : AR Z h a ty (List.replicate z.toNatClampNeg (defaultValue ty)) :=
  ⟨_, F, by simp [newA], by rw [List.length_replicate]; exact (back32 q).2⟩
theorem Go.newP (C : Ctx p s m meth c Z a0 ws own nm bytes ml ret) (X : St p l e R s m args below meth c n0 T h cells slots) {aty : ArrayType} {z : Int32} {cap : Nat} (w : Jvm.Cond.arrayClass (newarray.typeOf aty) ∈ ws) (hd : decode bytes pc = .ok (.newarray aty, 2)) (hn : ¬ z < 0) (hcap : z.toNatClampNeg ≤ cap) (hb8 : cap * 8 ≤ 536870912) (hc : cells + 1 ≤ R.cells) (hl : slots + cap ≤ R.slots)
    (K : ∀ T' h' b, h.size = b → n0 ≤ b → St p l e R s m args below meth c n0 T' h' (cells + 1) (slots + cap) → Ext h h' → AR Z h' b (newarray.typeOf aty) (List.replicate z.toNatClampNeg (defaultValue (newarray.typeOf aty))) → Go p e below s n0 k n Q (T'.setTop (mkF m (pc + 2) Ls (.ref b :: rest)))) : Go p e below s n0 k n Q (T.setTop (mkF m pc Ls (.int z :: rest))) := by
  have hs := X.size
  obtain ⟨e0, hz, locs, N, X⟩ := X
  obtain ⟨T', h', cA, X', e', E, F, st⟩ := Jvm.RoadKit.newP X C.hx C.hZ (C.w w) e0 (g := mkF m pc Ls (.int z :: rest)) rfl (hb C.hby hd) rfl hn hcap hb8 hc hl
  exact Go.st st (K T' h' _ rfl hs ⟨e', hz, _, N, X'⟩ E (AR.of F hn))
theorem AR.lt {a : Addr} {ty : FieldType} {vs : List Value} (F : AR Z h a ty vs) : a < h.size := by obtain ⟨c, A, -⟩ := F; exact A.lt
theorem AR.ext {a : Addr} {ty : FieldType} {vs : List Value} (F : AR Z h a ty vs) (E : Ext h h') : AR Z h' a ty vs := by obtain ⟨c, A, r⟩ := F; exact ⟨c, A.ext E, r⟩
theorem AR.other {a b : Addr} {ty : FieldType} {vs : List Value} {sl : Nat} {v : Value} (F : AR Z h b ty vs) (W : Wr h h' a sl v) (q : b ≠ a) : AR Z h' b ty vs := by obtain ⟨c, A, r⟩ := F; exact ⟨c, A.other W q, r⟩
theorem AR.keep {a : Addr} {ty : FieldType} {vs : List Value} {us : List Addr} (F : AR Z h a ty vs) (K : Keep h h' us) (q : a ∉ us) : AR Z h' a ty vs := by obtain ⟨c, A, r⟩ := F; exact ⟨c, ⟨K.2.1 a c A.1 q, A.2⟩, r⟩
theorem AR.same {a : Addr} {ty : FieldType} {vs : List Value} {i : Nat} {v : Value} (F : AR Z h a ty vs) (W : Wr h h' a i v) : AR Z h' a ty (vs.set i v) := by
  obtain ⟨c, A, r, q⟩ := F
  refine ⟨_, A.same W, ?_, by rw [List.length_set]; exact q⟩
  simp [Cell.setSlot, r]
theorem AR.in {a : Addr} {ty : FieldType} {vs : List Value} {j : Int32} {c : Cell} (r : c.slots = vs.toArray) (hj : ¬ j < 0) (hl : j.toNatClampNeg < vs.length) : ¬ (j < 0 ∨ c.slots.size ≤ j.toNatClampNeg) := by
  rw [r]; simp; exact ⟨Int32.not_lt.mp hj, hl⟩
theorem AR.ne {a b : Addr} {ty : FieldType} {vs : List Value} (F : AR Z h a ty vs) (g : h.size = b) : a ≠ b := by subst g; exact Nat.ne_of_lt F.lt
theorem ltOf {vs : List Value} {i : Nat} {v : Value} (q : vs[i]? = some v) : i < vs.length := (List.getElem?_eq_some_iff.mp q).1
theorem Go.iaload (C : Ctx p s m meth c Z a0 ws own nm bytes ml ret) (X : St p l e R s m args below meth c n0 T h cells slots) {a : Addr} {vs : List Value} {j : Int32} {x : Int32} (F : AR Z h a .int vs) (hj : ¬ j < 0) (hv : vs[j.toNatClampNeg]? = some (.int x)) (hd : decode bytes pc = .ok (.iaload, 1)) (K : Go p e below s n0 k n Q (T.setTop (mkF m (pc + 1) Ls (.int x :: rest)))) : Go p e below s n0 k n Q (T.setTop (mkF m pc Ls (.int j :: .ref a :: rest))) := by
  obtain ⟨e0, hz, locs, N, X⟩ := X
  obtain ⟨cl, A, r, -⟩ := F
  exact Go.st (X.iaload C.hx (j := j) (v := .int x) (by rw [e0]; exact A.1) (State.isArrayOf_alike C.hZ.alike A.2.1) A.2.2 (AR.in (a := a) (ty := .int) r hj (ltOf hv)) (by rw [r]; simpa using hv) (g := mkF m pc Ls (.int j :: .ref a :: rest)) rfl rfl (hb C.hby hd)) K
theorem Go.laload (C : Ctx p s m meth c Z a0 ws own nm bytes ml ret) (X : St p l e R s m args below meth c n0 T h cells slots) {a : Addr} {vs : List Value} {j : Int32} {x : Int64} (F : AR Z h a .long vs) (hj : ¬ j < 0) (hv : vs[j.toNatClampNeg]? = some (.long x)) (hd : decode bytes pc = .ok (.laload, 1)) (K : Go p e below s n0 k n Q (T.setTop (mkF m (pc + 1) Ls (.long x :: rest)))) : Go p e below s n0 k n Q (T.setTop (mkF m pc Ls (.int j :: .ref a :: rest))) := by
  obtain ⟨e0, hz, locs, N, X⟩ := X
  obtain ⟨cl, A, r, -⟩ := F
  exact Go.st (X.laload C.hx (j := j) (v := .long x) (by rw [e0]; exact A.1) (State.isArrayOf_alike C.hZ.alike A.2.1) A.2.2 (AR.in (a := a) (ty := .long) r hj (ltOf hv)) (by rw [r]; simpa using hv) (g := mkF m pc Ls (.int j :: .ref a :: rest)) rfl rfl (hb C.hby hd)) K
theorem Go.baload (C : Ctx p s m meth c Z a0 ws own nm bytes ml ret) (X : St p l e R s m args below meth c n0 T h cells slots) {a : Addr} {vs : List Value} {j : Int32} {x : Int32} (F : AR Z h a .byte vs) (hj : ¬ j < 0) (hv : vs[j.toNatClampNeg]? = some (.int x)) (hd : decode bytes pc = .ok (.baload, 1)) (K : Go p e below s n0 k n Q (T.setTop (mkF m (pc + 1) Ls (.int x :: rest)))) : Go p e below s n0 k n Q (T.setTop (mkF m pc Ls (.int j :: .ref a :: rest))) := by
  obtain ⟨e0, hz, locs, N, X⟩ := X
  obtain ⟨cl, A, r, -⟩ := F
  exact Go.st (X.baloadBytes C.hx (j := j) (v := .int x) (by rw [e0]; exact A.1) (State.isArrayOf_alike C.hZ.alike A.2.1) A.2.2 (AR.in (a := a) (ty := .byte) r hj (ltOf hv)) (by rw [r]; simpa using hv) (g := mkF m pc Ls (.int j :: .ref a :: rest)) rfl rfl (hb C.hby hd)) K
theorem Go.aaload (C : Ctx p s m meth c Z a0 ws own nm bytes ml ret) (X : St p l e R s m args below meth c n0 T h cells slots) {a : Addr} {ty : FieldType} {vs : List Value} {j : Int32} {v : Value} (F : AR Z h a ty vs) (hty : ty.isReference = true) (hj : ¬ j < 0) (hv : vs[j.toNatClampNeg]? = some v) (hd : decode bytes pc = .ok (.aaload, 1)) (K : Go p e below s n0 k n Q (T.setTop (mkF m (pc + 1) Ls (v :: rest)))) : Go p e below s n0 k n Q (T.setTop (mkF m pc Ls (.int j :: .ref a :: rest))) := by
  obtain ⟨e0, hz, locs, N, X⟩ := X
  obtain ⟨cl, A, r, -⟩ := F
  exact Go.st (X.aaload C.hx (j := j) (v := v) (by rw [e0]; exact A.1) (State.isArrayOf_alike C.hZ.alike A.2.1) hty A.2.2 (AR.in (a := a) (ty := ty) r hj (ltOf hv)) (by rw [r]; simpa using hv) (g := mkF m pc Ls (.int j :: .ref a :: rest)) rfl rfl (hb C.hby hd)) K
theorem Go.alen (C : Ctx p s m meth c Z a0 ws own nm bytes ml ret) (X : St p l e R s m args below meth c n0 T h cells slots) {a : Addr} {ty : FieldType} {vs : List Value} {z : Int32} (F : AR Z h a ty vs) (hz : vs.length.toInt32 = z) (hd : decode bytes pc = .ok (.arraylength, 1)) (K : Go p e below s n0 k n Q (T.setTop (mkF m (pc + 1) Ls (.int z :: rest)))) : Go p e below s n0 k n Q (T.setTop (mkF m pc Ls (.ref a :: rest))) := by
  subst hz
  obtain ⟨e0, hz, locs, N, X⟩ := X
  obtain ⟨cl, A, r, -⟩ := F
  refine Go.st (X.arraylength C.hx (by rw [e0]; exact A.1) (State.isArrayOf_alike C.hZ.alike A.2.1) (g := mkF m pc Ls (.ref a :: rest)) rfl rfl (hb C.hby hd)) ?_
  rw [r]
  simpa using K
theorem Go.iastore (C : Ctx p s m meth c Z a0 ws own nm bytes ml ret) (X : St p l e R s m args below meth c n0 T h cells slots) {a : Addr} {vs : List Value} {j : Int32} {x : Int32} (F : AR Z h a .int vs) (hj : ¬ j < 0) (hl : j.toNatClampNeg < vs.length) (ha : n0 ≤ a) (hd : decode bytes pc = .ok (.iastore, 1)) (K : ∀ T' h', St p l e R s m args below meth c n0 T' h' cells slots → Wr h h' a j.toNatClampNeg (.int x) → AR Z h' a .int (vs.set j.toNatClampNeg (.int x)) → Go p e below s n0 k n Q (T'.setTop (mkF m (pc + 1) Ls rest))) : Go p e below s n0 k n Q (T.setTop (mkF m pc Ls (.int x :: .int j :: .ref a :: rest))) := by
  obtain ⟨e0, hz, locs, N, X⟩ := X
  have F0 := F
  obtain ⟨cl, A, r, -⟩ := F
  obtain ⟨T', h', X', e', W, st⟩ := Jvm.RoadKit.stI X C.hx C.hZ e0 A (j := j) (x := x) (AR.in (a := a) (ty := .int) r hj hl) (g := mkF m pc Ls (.int x :: .int j :: .ref a :: rest)) rfl rfl (hb C.hby hd)
  exact Go.st st (K T' h' ⟨e', hz, _, Fr.snoc X' N ha, X'⟩ W (F0.same W))
theorem Go.lastore (C : Ctx p s m meth c Z a0 ws own nm bytes ml ret) (X : St p l e R s m args below meth c n0 T h cells slots) {a : Addr} {vs : List Value} {j : Int32} {x : Int64} (F : AR Z h a .long vs) (hj : ¬ j < 0) (hl : j.toNatClampNeg < vs.length) (ha : n0 ≤ a) (hd : decode bytes pc = .ok (.lastore, 1)) (K : ∀ T' h', St p l e R s m args below meth c n0 T' h' cells slots → Wr h h' a j.toNatClampNeg (.long x) → AR Z h' a .long (vs.set j.toNatClampNeg (.long x)) → Go p e below s n0 k n Q (T'.setTop (mkF m (pc + 1) Ls rest))) : Go p e below s n0 k n Q (T.setTop (mkF m pc Ls (.long x :: .int j :: .ref a :: rest))) := by
  obtain ⟨e0, hz, locs, N, X⟩ := X
  have F0 := F
  obtain ⟨cl, A, r, -⟩ := F
  obtain ⟨T', h', X', e', W, st⟩ := Jvm.RoadKit.stJ X C.hx C.hZ e0 A (j := j) (x := x) (AR.in (a := a) (ty := .long) r hj hl) (g := mkF m pc Ls (.long x :: .int j :: .ref a :: rest)) rfl rfl (hb C.hby hd)
  exact Go.st st (K T' h' ⟨e', hz, _, Fr.snoc X' N ha, X'⟩ W (F0.same W))
theorem Go.bastore (C : Ctx p s m meth c Z a0 ws own nm bytes ml ret) (X : St p l e R s m args below meth c n0 T h cells slots) {a : Addr} {vs : List Value} {j : Int32} {x : Int32} (F : AR Z h a .byte vs) (hj : ¬ j < 0) (hl : j.toNatClampNeg < vs.length) (ha : n0 ≤ a) (hd : decode bytes pc = .ok (.bastore, 1)) (K : ∀ T' h', St p l e R s m args below meth c n0 T' h' cells slots → Wr h h' a j.toNatClampNeg (.int (nar .byte x)) → AR Z h' a .byte (vs.set j.toNatClampNeg (.int (nar .byte x))) → Go p e below s n0 k n Q (T'.setTop (mkF m (pc + 1) Ls rest))) : Go p e below s n0 k n Q (T.setTop (mkF m pc Ls (.int x :: .int j :: .ref a :: rest))) := by
  obtain ⟨e0, hz, locs, N, X⟩ := X
  have F0 := F
  obtain ⟨cl, A, r, -⟩ := F
  obtain ⟨T', h', X', e', W, st⟩ := Jvm.RoadKit.stB X C.hx C.hZ e0 A (j := j) (x := x) (AR.in (a := a) (ty := .byte) r hj hl) (g := mkF m pc Ls (.int x :: .int j :: .ref a :: rest)) rfl rfl (hb C.hby hd)
  exact Go.st st (K T' h' ⟨e', hz, _, Fr.snoc X' N ha, X'⟩ W (F0.same W))
theorem Con.back {y : MethodName} {rm : Room} {as : Array Value} {W : Nat} (H : Con l Z y bytes ml ret [] rm n0 as h Q) (hZ : Z.Warmed39 s.vm) (wc : (Jvm.Cond.code y bytes ml ret).before a0 Z = true) (wz : (Jvm.Cond.initialized y.cls).before a0 Z = true) (hf : rm.frames + 1 ≤ R.frames) (hl : W + (ml + 11) + rm.locals ≤ R.locals) :
    Back l R p e below s args y 3 W (fun A a => a = as ∧ A.U.heap = h ∧ A.cells + rm.cells ≤ R.cells ∧ A.slots + rm.slots ≤ R.slots)
      (fun A _ v B => ∃ L, (Q v B.U.heap ∧ Fr n0 L) ∧ B.locs = A.locs ++ L ∧ B.cells = A.cells + rm.cells ∧ B.slots = A.slots + rm.slots) :=
  backOf (Q := fun v h L => Q v h ∧ Fr n0 L) H hZ wc wz hf hl
theorem Go.callS (C : Ctx p s m meth c Z a0 ws own nm bytes ml ret) (X : St p l e R s m args below meth c n0 T h cells slots) {y : MethodName} {bytes' : ByteArray} {ml' : Nat} {ret' : Option FieldType} {rm : Room} {i W : Nat} {argsL : List Value} {Q' : Option Value → Heap → Prop} (w1 : Jvm.Cond.methodLink own i y ∈ ws) (w2 : Jvm.Cond.static y ∈ ws) (w3 : Jvm.Cond.initialized y.cls ∈ ws) (w4 : Jvm.Cond.code y bytes' ml' ret' ∈ ws) (hy : y.cls ≠ "java/lang/invoke/MethodHandle" ∧ y.cls ≠ "java/lang/invoke/VarHandle")
    (H : Con l Z y bytes' ml' ret' [] rm n0 argsL.toArray h Q') (hfr : rm.frames + 1 ≤ R.frames) (hlo : W + (ml' + 11) + rm.locals ≤ R.locals) (hsz : Ls.size = ml) (hlen : ∀ sig, parseMethodDescriptor y.desc = some sig → argsL.length = sig.parameters.length) (hW : (rest.map fun v => v.category).sum ≤ W) (hstk : stk = argsL.reverse ++ rest) (hd : decode bytes pc = .ok (.invokestatic i, 3)) (hce : cells + rm.cells ≤ R.cells) (hsl : slots + rm.slots ≤ R.slots) (K : ∀ T' h' v, St p l e R s m args below meth c n0 T' h' (cells + rm.cells) (slots + rm.slots) → Q' v h' → Go p e below s n0 k n Q (T'.setTop (mkF m (pc + 3) Ls (v.toList ++ rest)))) : Go p e below s n0 k n Q (T.setTop (mkF m pc Ls stk)) := by
  obtain ⟨e0, hz, locs, N, X⟩ := X
  obtain ⟨v, _, ⟨T', L', k', n'⟩, -, X', ⟨L, hQ, l1, y1, z1⟩, st⟩ := Jvm.LawKit.callS X C.hx (y := y) C.hown (mvT C.hZ (C.w w1)) (mvT C.hZ (C.w w2)) (mvT C.hZ (C.w w3)) (mvT C.hZ (C.w w4)) hy (H.back (W := W) C.hZ (C.w w4) (C.w w3) hfr hlo) (g := mkF m pc Ls stk) rfl (hsz.trans C.hml.symm) (argsL := argsL) (rest := rest) hlen hstk (by show 2 * 0 + _ ≤ _; omega) (hb C.hby hd) (fun _ _ => ⟨rfl, e0, hce, hsl⟩)
  dsimp only [Pt.U, Pt.locs, Pt.cells, Pt.slots] at X' l1 y1 z1 st hQ
  subst l1 y1 z1
  exact Go.st st (K T' _ v ⟨rfl, hz, _, N.app hQ.2, X'⟩ hQ.1)
theorem Go.callInit (C : Ctx p s m meth c Z a0 ws own nm bytes ml ret) (X : St p l e R s m args below meth c n0 T h cells slots) {y : MethodName} {bytes' : ByteArray} {ml' : Nat} {rm : Room} {i W : Nat} {argsL : List Value} {Q' : Option Value → Heap → Prop} {a : Addr} (hy1 : y.name = "<init>") (w1 : Jvm.Cond.methodLink own i y ∈ ws) (w2 : Jvm.Cond.instanceMethod y ∈ ws) (w3 : Jvm.Cond.initialized y.cls ∈ ws) (w4 : Jvm.Cond.code y bytes' ml' none ∈ ws) (hy : y.cls ≠ "java/lang/invoke/MethodHandle" ∧ y.cls ≠ "java/lang/invoke/VarHandle")
    (H : Con l Z y bytes' ml' none [] rm n0 (.ref a :: argsL).toArray h Q') (hfr : rm.frames + 1 ≤ R.frames) (hlo : W + (ml' + 11) + rm.locals ≤ R.locals) (hsz : Ls.size = ml) (hlen : ∀ sig, parseMethodDescriptor y.desc = some sig → argsL.length = sig.parameters.length) (hW : (rest.map fun v => v.category).sum ≤ W) (hstk : stk = argsL.reverse ++ .ref a :: rest) (hd : decode bytes pc = .ok (.invokespecial i, 3)) (hce : cells + rm.cells ≤ R.cells) (hsl : slots + rm.slots ≤ R.slots) (K : ∀ T' h' v, St p l e R s m args below meth c n0 T' h' (cells + rm.cells) (slots + rm.slots) → Q' v h' → Go p e below s n0 k n Q (T'.setTop (mkF m (pc + 3) Ls (v.toList ++ rest)))) : Go p e below s n0 k n Q (T.setTop (mkF m pc Ls stk)) := by
  obtain ⟨e0, hz, locs, N, X⟩ := X
  obtain ⟨v, _, ⟨T', L', k', n'⟩, -, X', ⟨L, hQ, l1, y1, z1⟩, st⟩ := X.specialBack C.hx (y := y) hy1 C.hown (mvT C.hZ (C.w w1)) (mvT C.hZ (C.w w2)) (mvT C.hZ (C.w w4)) hy (H.back (W := W) C.hZ (C.w w4) (C.w w3) hfr hlo) (g := mkF m pc Ls stk) rfl (hsz.trans C.hml.symm) (Steps.refl _) (a := a) (argsL := argsL) (rest := rest) hlen hstk (by show 2 * 0 + _ ≤ _; omega) (hb C.hby hd) (fun _ _ => ⟨rfl, e0, hce, hsl⟩)
  dsimp only [Pt.U, Pt.locs, Pt.cells, Pt.slots] at X' l1 y1 z1 st hQ
  subst l1 y1 z1
  exact Go.tr st (K T' _ v ⟨rfl, hz, _, N.app hQ.2, X'⟩ hQ.1)
theorem Go.callV (C : Ctx p s m meth c Z a0 ws own nm bytes ml ret) (X : St p l e R s m args below meth c n0 T h cells slots) {y : MethodName} {bytes' : ByteArray} {ml' : Nat} {ret' : Option FieldType} {rm : Room} {i W : Nat} {argsL : List Value} {Q' : Option Value → Heap → Prop} {a : Addr} {C1 : String} (E : Exa Z h a C1) (w1 : Jvm.Cond.methodLink own i y ∈ ws) (w2 : Jvm.Cond.declares y ∈ ws) (w5 : Jvm.Cond.selects C1 y y ∈ ws) (w6 : Jvm.Cond.instanceMethod y ∈ ws) (w3 : Jvm.Cond.initialized y.cls ∈ ws) (w4 : Jvm.Cond.code y bytes' ml' ret' ∈ ws) (hy : y.cls ≠ "java/lang/invoke/MethodHandle" ∧ y.cls ≠ "java/lang/invoke/VarHandle") (hC1 : C1 = y.cls)
    (H : Con l Z y bytes' ml' ret' [] rm n0 (.ref a :: argsL).toArray h Q') (hfr : rm.frames + 1 ≤ R.frames) (hlo : W + (ml' + 11) + rm.locals ≤ R.locals) (hsz : Ls.size = ml) (hlen : ∀ sig, parseMethodDescriptor y.desc = some sig → argsL.length = sig.parameters.length) (hW : (rest.map fun v => v.category).sum ≤ W) (hstk : stk = argsL.reverse ++ .ref a :: rest) (hd : decode bytes pc = .ok (.invokevirtual i, 3)) (hce : cells + rm.cells ≤ R.cells) (hsl : slots + rm.slots ≤ R.slots) (K : ∀ T' h' v, St p l e R s m args below meth c n0 T' h' (cells + rm.cells) (slots + rm.slots) → Q' v h' → Go p e below s n0 k n Q (T'.setTop (mkF m (pc + 3) Ls (v.toList ++ rest)))) : Go p e below s n0 k n Q (T.setTop (mkF m pc Ls stk)) := by
  subst hC1
  obtain ⟨e0, hz, locs, N, X⟩ := X
  obtain ⟨cq, kq, qa, qb, qc⟩ := isOf (T := T) C.hZ e0 E
  obtain ⟨v, _, ⟨T', L', k', n'⟩, -, X', ⟨L, hQ, l1, y1, z1⟩, st⟩ := X.virtualBack C.hx (y := y) (z := y) C.hown (mvT C.hZ (C.w w1)) (mvT C.hZ (C.w w2)) (notFace_of_selects (args := #[]) (mvT C.hZ (C.w w5))) (mvT C.hZ (C.w w5)) (mvT C.hZ (C.w w6)) hy (H.back (W := W) C.hZ (C.w w4) (C.w w3) hfr hlo) qa qc (g := mkF m pc Ls stk) rfl (hsz.trans C.hml.symm) (Steps.refl _) (argsL := argsL) (rest := rest) hlen hstk (by show 2 * 0 + _ ≤ _; omega) (hb C.hby hd) (fun _ _ => ⟨rfl, e0, hce, hsl⟩)
  dsimp only [Pt.U, Pt.locs, Pt.cells, Pt.slots] at X' l1 y1 z1 st hQ
  subst l1 y1 z1
  exact Go.tr st (K T' _ v ⟨rfl, hz, _, N.app hQ.2, X'⟩ hQ.1)
theorem Go.initO (C : Ctx p s m meth c Z a0 ws own nm bytes ml ret) (X : St p l e R s m args below meth c n0 T h cells slots) {i W : Nat} {a : Addr} (w1 : Jvm.Cond.methodLink own i Lib.objectInit ∈ ws) (w2 : Jvm.Cond.instanceMethod Lib.objectInit ∈ ws) (w3 : Jvm.Cond.code Lib.objectInit ⟨#[0xb1]⟩ 1 none ∈ ws) (hsz : Ls.size = ml) (hd : decode bytes pc = .ok (.invokespecial i, 3)) (hf : 1 ≤ R.frames) (hW : (rest.map fun v => v.category).sum ≤ W) (hl : W + 12 ≤ R.locals) (K : ∀ T', St p l e R s m args below meth c n0 T' h cells slots → Go p e below s n0 k n Q (T'.setTop (mkF m (pc + 3) Ls rest))) : Go p e below s n0 k n Q (T.setTop (mkF m pc Ls (.ref a :: rest))) := by
  obtain ⟨e0, hz, locs, N, X⟩ := X
  obtain ⟨T', X', e', st⟩ := Jvm.RoadKit.initO X C.hx C.hZ C.hown (C.w w1) (C.w w2) (C.w w3) e0 (g := mkF m pc Ls (.ref a :: rest)) rfl (hsz.trans C.hml.symm) rfl (hb C.hby hd) hf (W := W) (by show 2 * 0 + _ ≤ _; omega) hl
  exact Go.st st (K T' ⟨e', hz, locs, N, X'⟩)
theorem Go.ldcI (C : Ctx p s m meth c Z a0 ws own nm bytes ml ret) (X : St p l e R s m args below meth c n0 T h cells slots) {i : Nat} {x : Int32} (w : Jvm.Cond.constant own i x ∈ ws) (hd : decode bytes pc = .ok (.ldc i, 2)) (K : Go p e below s n0 k n Q (T.setTop (mkF m (pc + 2) Ls (.int x :: stk)))) : Go p e below s n0 k n Q (T.setTop (mkF m pc Ls stk)) := by
  obtain ⟨e0, hz, locs, N, X⟩ := X
  exact Go.st (fun _ => X.ldcI (g := mkF m pc Ls stk) C.hx C.hown (mvT C.hZ (C.w w)) rfl (hb C.hby hd)) K
theorem Go.ldcW (C : Ctx p s m meth c Z a0 ws own nm bytes ml ret) (X : St p l e R s m args below meth c n0 T h cells slots) {i : Nat} {x : Int32} (w : Jvm.Cond.constant own i x ∈ ws) (hd : decode bytes pc = .ok (.ldc_w i, 3)) (K : Go p e below s n0 k n Q (T.setTop (mkF m (pc + 3) Ls (.int x :: stk)))) : Go p e below s n0 k n Q (T.setTop (mkF m pc Ls stk)) := by
  obtain ⟨e0, hz, locs, N, X⟩ := X
  exact Go.st (fun _ => X.ldcWI (g := mkF m pc Ls stk) C.hx C.hown (mvT C.hZ (C.w w)) rfl (hb C.hby hd)) K
theorem Go.ldcJ (C : Ctx p s m meth c Z a0 ws own nm bytes ml ret) (X : St p l e R s m args below meth c n0 T h cells slots) {i : Nat} {x : Int64} (w : Jvm.Cond.constantLong own i x ∈ ws) (hd : decode bytes pc = .ok (.ldc2_w i, 3)) (K : Go p e below s n0 k n Q (T.setTop (mkF m (pc + 3) Ls (.long x :: stk)))) : Go p e below s n0 k n Q (T.setTop (mkF m pc Ls stk)) := by
  obtain ⟨e0, hz, locs, N, X⟩ := X
  exact Go.st (fun _ => X.ldc2J (g := mkF m pc Ls stk) C.hx C.hown (mvT C.hZ (C.w w)) rfl (hb C.hby hd)) K
theorem Go.irem (C : Ctx p s m meth c Z a0 ws own nm bytes ml ret) (X : St p l e R s m args below meth c n0 T h cells slots) {x y : Int32} (hy : y ≠ 0) (hd : decode bytes pc = .ok (.irem, 1)) (K : Go p e below s n0 k n Q (T.setTop (mkF m (pc + 1) Ls (.int (x % y) :: rest)))) : Go p e below s n0 k n Q (T.setTop (mkF m pc Ls (.int y :: .int x :: rest))) := by
  obtain ⟨e0, hz, locs, N, X⟩ := X
  exact Go.st (fun _ => Jvm.RoadKit.iremM (g := mkF m pc Ls (.int y :: .int x :: rest)) X C.hx rfl (hb C.hby hd) rfl hy) K
theorem Go.lrem (C : Ctx p s m meth c Z a0 ws own nm bytes ml ret) (X : St p l e R s m args below meth c n0 T h cells slots) {x y : Int64} (hy : y ≠ 0) (hd : decode bytes pc = .ok (.lrem, 1)) (K : Go p e below s n0 k n Q (T.setTop (mkF m (pc + 1) Ls (.long (x % y) :: rest)))) : Go p e below s n0 k n Q (T.setTop (mkF m pc Ls (.long y :: .long x :: rest))) := by
  refine Go.st (fun _ => XS.lrem (g := mkF m pc Ls (.long y :: .long x :: rest)) X.here C.hx rfl (hb C.hby hd) rfl hy) ?_
  rw [lrem_mod]
  exact K
theorem Go.dupX2 (C : Ctx p s m meth c Z a0 ws own nm bytes ml ret) (X : St p l e R s m args below meth c n0 T h cells slots) {x y z : Value} (h1 : x.category = 1) (h2 : y.category = 1) (h3 : z.category = 1) (hd : decode bytes pc = .ok (.dup_x2, 1)) (K : Go p e below s n0 k n Q (T.setTop (mkF m (pc + 1) Ls (x :: y :: z :: x :: rest)))) : Go p e below s n0 k n Q (T.setTop (mkF m pc Ls (x :: y :: z :: rest))) := by
  refine Go.st (fun t hr => ?_) K
  have hx := C.hx
  have hd' := hb C.hby hd
  jvm_step X.here [X.here.top, hx, hd', h1, h2, h3]
  exact hr
theorem eqI_v {args : Array Value} {first s : State} {o : Option Outcome} {idx : List Nat} {t : Term} {z : Int32} (q : (Jvm.Cond.eq t (Term.int z)).value args first o s idx = some true) : t.eval args first o idx s = some (.int z) := by
  obtain ⟨x, y, ha, hb, k1, k2⟩ := cmp_v (Or.inl q)
  have hy : y = .int z := by
    have r := Term.int_eval (args := args) (first := first) (o := o) (idx := idx) (s := s) z
    rw [r] at hb; exact (Option.some.inj hb).symm
  subst hy
  obtain ⟨u, rfl⟩ := k2
  rw [ha, gotT (Cond.eq_ints ha hb) q]
theorem fieldNe {args : Array Value} {first s : State} {o : Option Outcome} {idx : List Nat} {t t' : Term} {C f d : String} {a b : Addr} {z z' : Int32} (h1 : t.eval args first o idx s = some (.ref a)) (h2 : t'.eval args first o idx s = some (.ref b)) (q1 : (Jvm.Cond.eq (Term.field t C f d) (Term.int z)).value args first o s idx = some true) (q2 : (Jvm.Cond.eq (Term.field t' C f d) (Term.int z')).value args first o s idx = some true) (hz : z ≠ z') : a ≠ b := by
  intro r; subst r
  have e1 := eqI_v q1; have e2 := eqI_v q2
  rw [fld_at h1] at e1; rw [fld_at h2] at e2
  rw [e1] at e2
  cases e2; exact hz rfl
/-- an array whose elements are known and that may be cloned -/
def AF (Z : State) (h : Heap) (a : Addr) (ty : FieldType) (vs : List Value) : Prop := ∃ c : Cell, Arr Z h a c ty ∧ c.slots = vs.toArray ∧ vs.length < 2 ^ 31 ∧ FitC Z c
theorem AF.ar {a : Addr} {ty : FieldType} {vs : List Value} (F : AF Z h a ty vs) : AR Z h a ty vs := by obtain ⟨c, A, r, q, -⟩ := F; exact ⟨c, A, r, q⟩
theorem Go.clone (C : Ctx p s m meth c Z a0 ws own nm bytes ml ret) (X : St p l e R s m args below meth c n0 T h cells slots) {ad : String} {i W cap : Nat} {a : Addr} {ty : FieldType} {vs : List Value} (w1 : Jvm.Cond.methodLink own i ⟨ad, "clone", "()Ljava/lang/Object;"⟩ ∈ ws) (w2 : Jvm.Cond.sameMethod ad "java/lang/Object" "clone" "()Ljava/lang/Object;" ∈ ws) (w3 : Jvm.Cond.native ⟨"java/lang/Object", "clone", "()Ljava/lang/Object;"⟩ ∈ ws) (w4 : Jvm.Cond.instanceMethod ⟨"java/lang/Object", "clone", "()Ljava/lang/Object;"⟩ ∈ ws)
    (w5 : Jvm.Cond.selects ad ⟨ad, "clone", "()Ljava/lang/Object;"⟩ ⟨"java/lang/Object", "clone", "()Ljava/lang/Object;"⟩ ∈ ws) (w6 : Jvm.Cond.castable ad "java/lang/Cloneable" ∈ ws) (F : AF Z h a ty vs) (E : Exa Z h a ad) (hsz : Ls.size = ml) (hd : decode bytes pc = .ok (.invokevirtual i, 3)) (hf : 1 ≤ R.frames) (hW : (rest.map fun v => v.category).sum ≤ W) (hl : W + 14 ≤ R.locals) (hcap : vs.length ≤ cap) (hc : cells + 1 ≤ R.cells) (hsl : slots + cap ≤ R.slots)
    (K : ∀ T' h' b, h.size = b → n0 ≤ b → St p l e R s m args below meth c n0 T' h' (cells + 1) (slots + cap) → Ext h h' → AR Z h' b ty vs → Exa Z h' b ad → Go p e below s n0 k n Q (T'.setTop (mkF m (pc + 3) Ls (.ref b :: rest)))) : Go p e below s n0 k n Q (T.setTop (mkF m pc Ls (.ref a :: rest))) := by
  have hs := X.size
  obtain ⟨e0, hz, locs, N, X⟩ := X
  obtain ⟨cl, A, r, q, FC⟩ := F
  obtain ⟨T', h', X', e', Ex, A', E', st⟩ := Jvm.RoadKit.cloneA X C.hx C.hZ C.hown (C.w w1) (C.w w2) (C.w w3) (C.w w4) (C.w w5) (C.w w6) e0 A E FC (g := mkF m pc Ls (.ref a :: rest)) rfl (hsz.trans C.hml.symm) rfl (hb C.hby hd) hf (W := W) (cap := cap) (by show 2 * 0 + _ ≤ _; omega) hl (by rw [r]; simpa using hcap) hc hsl
  exact Go.st st (K T' h' _ rfl hs ⟨e', hz, _, N, X'⟩ Ex ⟨_, A', r, q⟩ E')
theorem Go.cast (C : Ctx p s m meth c Z a0 ws own nm bytes ml ret) (X : St p l e R s m args below meth c n0 T h cells slots) {i : Nat} {K1 : String} {a : Addr} (w : Jvm.Cond.classLink own i K1 ∈ ws) (F : Ins Z h a K1 true) (hd : decode bytes pc = .ok (.checkcast i, 3)) (K : ∀ T', St p l e R s m args below meth c n0 T' h cells slots → Go p e below s n0 k n Q (T'.setTop (mkF m (pc + 3) Ls (.ref a :: rest)))) : Go p e below s n0 k n Q (T.setTop (mkF m pc Ls (.ref a :: rest))) := by
  obtain ⟨e0, hz, locs, N, X⟩ := X
  obtain ⟨T', X', e', st⟩ := Jvm.RoadKit.castY X C.hx C.hZ C.hown (C.w w) e0 F (g := mkF m pc Ls (.ref a :: rest)) rfl rfl (hb C.hby hd)
  exact Go.st st (K T' ⟨e', hz, locs, N, X'⟩)
theorem elemRef {args : Array Value} {s : State} {t t' : Term} {a x : Addr} {cl : Cell} {j : Int32} (q : (Jvm.Cond.eq (Term.elem t (Term.int j)) t').value args s none s [] = some true) (ht : t.eval args s none [] s = some (.ref a)) (ht' : t'.eval args s none [] s = some (.ref x)) (hc : s.heap[a]? = some cl) : cl.slots[j.toNatClampNeg]? = some (.ref x) := by
  obtain ⟨u, v, ha, hb, k1, k2⟩ := cmp_v (Or.inl q)
  rw [ht'] at hb
  cases hb
  have e := gotT (eq_R ha ht' k2.2 rfl) q
  subst e
  exact (elem_in ha ht (Term.int_eval j) hc).2
theorem fldI {args : Array Value} {s : State} {t : Term} {a : Addr} {C f d : String} {z : Int32} (q : (Jvm.Cond.eq (Term.field t C f d) (Term.int z)).value args s none s [] = some true) (ht : t.eval args s none [] s = some (.ref a)) : Fld s s.heap a C f d (.int z) := by
  have e := eqI_v q
  rw [fld_at ht] at e
  exact Fld.start e
theorem lenOf' {args : Array Value} {s : State} {t : Term} {a : Addr} {cl : Cell} {ty : FieldType} {z : Int32} (q : (Jvm.Cond.eq (Term.length t) (Term.int z)).value args s none s [] = some true) (ht : t.eval args s none [] s = some (.ref a)) (A : Arr s s.heap a cl ty) : cl.slots.size.toInt32 = z ∧ cl.slots.size < 2 ^ 31 := by
  obtain ⟨b, cell, h1, h2, h3, h4⟩ := Jvm.Lib.length_spec (eqI_v q)
  rw [ht] at h1
  cases h1
  rw [A.fin (Vm.Alike.refl _)] at h2
  cases h2
  exact ⟨(Value.int.inj h4).symm, h3⟩
theorem Go.newPE (C : Ctx p s m meth c Z a0 ws own nm bytes ml ret) (X : St p l e R s m args below meth c n0 T h cells slots) {aty : ArrayType} {z : Int32} {cap : Nat} {ad : String} (w : Jvm.Cond.arrayClass (newarray.typeOf aty) ∈ ws) (had : "[" ++ (newarray.typeOf aty).toString = ad) (hd : decode bytes pc = .ok (.newarray aty, 2)) (hn : ¬ z < 0) (hcap : z.toNatClampNeg ≤ cap) (hb8 : cap * 8 ≤ 536870912) (hc : cells + 1 ≤ R.cells) (hl : slots + cap ≤ R.slots)
    (K : ∀ T' h' b, h.size = b → n0 ≤ b → St p l e R s m args below meth c n0 T' h' (cells + 1) (slots + cap) → Ext h h' → AR Z h' b (newarray.typeOf aty) (List.replicate z.toNatClampNeg (defaultValue (newarray.typeOf aty))) → Exa Z h' b ad → Go p e below s n0 k n Q (T'.setTop (mkF m (pc + 2) Ls (.ref b :: rest)))) : Go p e below s n0 k n Q (T.setTop (mkF m pc Ls (.int z :: rest))) := by
  have hs := X.size
  obtain ⟨e0, hz, locs, N, X⟩ := X
  obtain ⟨T', h', cA, X', e', E, F, EX, st⟩ := Jvm.RoadKit.newPE X C.hx C.hZ (C.w w) e0 (g := mkF m pc Ls (.int z :: rest)) rfl (hb C.hby hd) rfl hn hcap hb8 hc hl had
  exact Go.st st (K T' h' _ rfl hs ⟨e', hz, _, N, X'⟩ E (AR.of F hn) EX)
theorem AF.zero {a : Addr} {N : Nat} (F : AR Z h a .byte (List.replicate N (.int (0 : Int32)))) : AF Z h a .byte (List.replicate N (.int (0 : Int32))) := by
  obtain ⟨c, A, r, q⟩ := F
  refine ⟨c, A, r, q, fitC_of A fun i hi v hv => ?_⟩
  rw [r, List.getElem?_toArray, List.getElem?_replicate] at hv
  split at hv
  · cases hv; rfl
  · cases hv
theorem AR.arv0 {a : Addr} {N : Nat} (F : AR Z h a .byte (List.replicate N (.int (0 : Int32)))) : ∃ k, Arv Z h a k .byte N.toInt32 (List.replicate N (.int (0 : Int32))) (.int (0 : Int32)) := by
  obtain ⟨c, A, r, q⟩ := F
  rw [List.length_replicate] at q
  have sz : c.slots.size = N := by rw [r]; simp
  have cN : N.toInt32.toNatClampNeg = N := by simp only [Int32.toNatClampNeg, len_toInt q]; rfl
  have g0 : ∀ i, (List.replicate N (Value.int (0 : Int32))).getD i (.int (0 : Int32)) = .int (0 : Int32) := fun i => by
    rw [List.getD_eq_getElem?_getD, List.getElem?_replicate]; split <;> rfl
  refine ⟨c.cls, c, A, rfl, by rw [sz, cN], ?_, fun i hi => ?_, fun i _ => by rw [g0]; rfl⟩
  · rw [Int32.lt_iff_toInt_lt, len_toInt q]
    have h0 : (0 : Int32).toInt = 0 := rfl
    omega
  · rw [g0, r]
    rw [sz] at hi
    simp [List.getElem?_replicate, hi]
theorem Arv.ar0 {a : Addr} {k : ClassId} {N : Nat} {vs : List Value} (hN : N < 2 ^ 31) (F : Arv Z h a k .byte N.toInt32 vs (.int (0 : Int32))) (hv : ∀ i, vs.getD i (.int (0 : Int32)) = .int (0 : Int32)) : AR Z h a .byte (List.replicate N (.int (0 : Int32))) := by
  obtain ⟨c, A, -, S, -, H, -⟩ := F
  have cN : N.toInt32.toNatClampNeg = N := by simp only [Int32.toNatClampNeg, len_toInt hN]; rfl
  rw [cN] at S
  refine ⟨c, A, ?_, by rw [List.length_replicate]; exact hN⟩
  apply Array.ext_getElem?
  intro i
  by_cases q : i < N
  · rw [H i (by omega), hv]; simp [List.getElem?_replicate, q]
  · rw [Array.getElem?_eq_none (by omega), Array.getElem?_eq_none (by simp; omega)]
theorem Go.acopy0 (C : Ctx p s m meth c Z a0 ws own nm bytes ml ret) (X : St p l e R s m args below meth c n0 T h cells slots) {i W : Nat} {a b : Addr} {n1 n2 : Nat} {nn : Int32} (w1 : Jvm.Cond.methodLink own i Jvm.Stand.acN ∈ ws) (w2 : Jvm.Cond.native Jvm.Stand.acN ∈ ws) (w3 : Jvm.Cond.static Jvm.Stand.acN ∈ ws) (w4 : Jvm.Cond.initialized "java/lang/System" ∈ ws) (F1 : AR Z h a .byte (List.replicate n1 (.int (0 : Int32)))) (F2 : AR Z h b .byte (List.replicate n2 (.int (0 : Int32)))) (hnn : ¬ nn < 0) (h1 : nn.toNatClampNeg ≤ n1) (h2 : nn.toNatClampNeg ≤ n2) (gb : n0 ≤ b) (hsz : Ls.size = ml)
    (hd : decode bytes pc = .ok (.invokestatic i, 3)) (hf : 1 ≤ R.frames) (hW : (rest.map fun v => v.category).sum ≤ W) (hlo : W + (nativeFrameWords "java/lang/System" "arraycopy" 5 + 11) ≤ R.locals)
    (K : ∀ T' h', St p l e R s m args below meth c n0 T' h' cells slots → Keep h h' [b] → AR Z h' b .byte (List.replicate n2 (.int (0 : Int32))) → Go p e below s n0 k n Q (T'.setTop (mkF m (pc + 3) Ls rest))) : Go p e below s n0 k n Q (T.setTop (mkF m pc Ls (.int nn :: .int 0 :: .ref b :: .int 0 :: .ref a :: rest))) := by
  obtain ⟨e0, hz, locs, N, X⟩ := X
  obtain ⟨k1, V1⟩ := F1.arv0
  obtain ⟨k2, V2⟩ := F2.arv0
  have q1 : n1 < 2 ^ 31 := by obtain ⟨_, _, _, q⟩ := F1; rw [List.length_replicate] at q; exact q
  have q2 : n2 < 2 ^ 31 := by obtain ⟨_, _, _, q⟩ := F2; rw [List.length_replicate] at q; exact q
  have c1 : n1.toInt32.toNatClampNeg = n1 := by simp only [Int32.toNatClampNeg, len_toInt q1]; rfl
  have c2 : n2.toInt32.toNatClampNeg = n2 := by simp only [Int32.toNatClampNeg, len_toInt q2]; rfl
  have z0 : (0 : Int32).toNatClampNeg = 0 := rfl
  obtain ⟨T', h', L, X', e', N', KK, V', st⟩ := cpA X C.hx C.hZ C.hown (C.w w1) (C.w w2) (C.w w3) (C.w w4) e0 V1 V2 (sp := 0) (dp := 0) (nn := nn) (Or.inl ⟨rfl, rfl⟩) (by decide) (by decide) hnn (by rw [z0, c1]; omega) (by rw [z0, c2]; omega) rfl (by rw [z0, List.length_replicate]; omega) N gb (g := mkF m pc Ls (.int nn :: .int 0 :: .ref b :: .int 0 :: .ref a :: rest)) rfl (hsz.trans C.hml.symm) rfl (hb C.hby hd) hf (W := W) (by show 2 * 0 + _ ≤ _; omega) hlo
  refine Go.st st (K T' h' ⟨e', hz, L, N', X'⟩ KK (Arv.ar0 q2 V' fun j => ?_))
  have g0 : ∀ (vs : List Value), (∀ x ∈ vs, x = .int (0 : Int32)) → vs.getD j (.int (0 : Int32)) = .int (0 : Int32) := fun vs hv => by
    rw [List.getD_eq_getElem?_getD]
    cases hq : vs[j]? with
    | none => rfl
    | some x => exact hv x (List.mem_of_getElem? hq)
  refine g0 _ fun x hx => ?_
  rcases List.mem_append.mp hx with hx | hx
  · rcases List.mem_append.mp hx with hx | hx
    · rw [z0] at hx; simp at hx
    · obtain ⟨y, -, rfl⟩ := List.mem_map.mp hx
      rw [List.getD_eq_getElem?_getD, List.getElem?_replicate]; split <;> rfl
  · exact (List.mem_replicate.mp (List.mem_of_mem_drop hx)).2
end One
end Jvm.OwnGo
namespace Jvm.Pilot.@@N@@
open Jvm Jvm.ClassFile Sem Op Lib Jvm.Free Jvm.Stand Jvm.LawKit Jvm.RoadKit Bundle Jvm.OwnGo Jvm.Pilot.@@N@@.Jvm.D
def Z0L (n : Nat) : List Value := List.replicate n (.int (0 : Int32))
theorem cl32 {i : Nat} (h : i < 2147483648) : i.toInt32.toNatClampNeg = i := by
  simp only [Int32.toNatClampNeg, len_toInt h]; rfl
theorem nn32 {i : Nat} (h : i < 2147483648) : ¬ i.toInt32 < 0 := by
  rw [Int32.lt_iff_toInt_lt, len_toInt h]
  have h0 : (0 : Int32).toInt = 0 := rfl
  omega
theorem ltI {i j : Nat} (hi : i < 1000) (hj : j < 1000) : i.toInt32 < j.toInt32 ↔ i < j := by
  rw [Int32.lt_iff_toInt_lt, len_toInt (by omega), len_toInt (by omega)]; omega
theorem eqI {i j : Nat} (hi : i < 1000) (hj : j < 1000) : i.toInt32 = j.toInt32 ↔ i = j := by
  rw [← Int32.toInt_inj, len_toInt (by omega), len_toInt (by omega)]; omega
def mxF (x y : Int32) : Int32 := if x < y then y else x
def mnF (x y : Int32) : Int32 := if y < x then y else x
theorem mnN {i j : Nat} (hi : i < 1000) (hj : j < 1000) : ¬ mnF i.toInt32 j.toInt32 < 0 ∧ (mnF i.toInt32 j.toInt32).toNatClampNeg ≤ i ∧ (mnF i.toInt32 j.toInt32).toNatClampNeg ≤ j := by
  unfold mnF
  split
  · rename_i q
    rw [ltI hj hi] at q
    rw [cl32 (by omega)]
    exact ⟨nn32 (by omega), by omega, Nat.le_refl _⟩
  · rename_i q
    rw [ltI hj hi] at q
    rw [cl32 (by omega)]
    exact ⟨nn32 (by omega), Nat.le_refl _, by omega⟩
theorem capOk {x cz : Int32} (h : mxF ((x &&& (63 : Int32)) - (16 : Int32)) 1 = cz) : ∃ k : Nat, 0 < k ∧ k < 48 ∧ cz = k.toInt32 := by
  obtain ⟨b1, b2⟩ := c_and x 63 (by decide)
  have k63 : (63 : Int32).toInt = 63 := rfl
  have k16 : (16 : Int32).toInt = 16 := rfl
  have k1 : (1 : Int32).toInt = 1 := rfl
  have k0 : (0 : Int32).toInt = 0 := rfl
  rw [k63] at b2
  have e1 : ((x &&& (63 : Int32)) - (16 : Int32)).toInt = (x &&& (63 : Int32)).toInt - 16 := by
    rw [Int32.toInt_sub, k16]; simp only [Int.bmod]; omega
  have e2 : 0 < cz.toInt ∧ cz.toInt < 48 := by
    rw [← h]; unfold mxF
    split
    · rw [k1]; decide
    · rename_i q
      rw [Int32.lt_iff_toInt_lt, e1, k1] at q
      rw [e1]; omega
  have hz : ¬ cz < 0 := by rw [Int32.lt_iff_toInt_lt, k0]; omega
  refine ⟨cz.toNatClampNeg, ?_, ?_, ((back32 hz).1).symm⟩ <;> simp only [Int32.toNatClampNeg] <;> omega
theorem curOk {x z : Int32} (h : (x &&& (63 : Int32)) = z) : ∃ k : Nat, k < 64 ∧ z = k.toInt32 := by
  obtain ⟨b1, b2⟩ := c_and x 63 (by decide)
  rw [h] at b1 b2
  have k63 : (63 : Int32).toInt = 63 := rfl
  have k0 : (0 : Int32).toInt = 0 := rfl
  rw [k63] at b2
  have hz : ¬ z < 0 := by rw [Int32.lt_iff_toInt_lt, k0]; omega
  refine ⟨z.toNatClampNeg, ?_, ((back32 hz).1).symm⟩
  simp only [Int32.toNatClampNeg]; omega
theorem lenOk {x lz : Int32} (h : ((x &&& (127 : Int32)) - (32 : Int32)) = lz) : lz < 96 := by
  obtain ⟨b1, b2⟩ := c_and x 127 (by decide)
  have k1 : (127 : Int32).toInt = 127 := rfl
  have k2 : (32 : Int32).toInt = 32 := rfl
  have k3 : (96 : Int32).toInt = 96 := rfl
  rw [k1] at b2
  rw [Int32.lt_iff_toInt_lt, ← h, Int32.toInt_sub, k2, k3]; simp only [Int.bmod]; omega
theorem lenNat {n : Nat} {lz : Int32} (hl : lz < 96) (hn : n < 64) (h : n.toInt32 < lz) : ∃ k : Nat, n < k ∧ k < 96 ∧ lz = k.toInt32 ∧ ¬ lz < 0 := by
  rw [Int32.lt_iff_toInt_lt] at hl h
  rw [len_toInt (by omega)] at h
  have k3 : (96 : Int32).toInt = 96 := rfl
  have k0 : (0 : Int32).toInt = 0 := rfl
  have hz : ¬ lz < 0 := by rw [Int32.lt_iff_toInt_lt, k0]; omega
  refine ⟨lz.toNatClampNeg, ?_, ?_, ((back32 hz).1).symm, hz⟩ <;> simp only [Int32.toNatClampNeg] <;> omega
def CB (Z : State) (h : Heap) (q a1 a2 a4 : Addr) (cp n : Nat) (nf nr : Int32) (B F : List Value) : Prop :=
  Exa Z h q "com/example/vitruvius/vitruvius/csv/CsvBatch" ∧ Fld Z h q "com/example/vitruvius/vitruvius/csv/CsvBatch" "bounds" "[I" (.ref a1) ∧ Fld Z h q "com/example/vitruvius/vitruvius/csv/CsvBatch" "firstFields" "[I" (.ref a2) ∧ Fld Z h q "com/example/vitruvius/vitruvius/csv/CsvBatch" "capacity" "I" (.int cp.toInt32) ∧ Fld Z h q "com/example/vitruvius/vitruvius/csv/CsvBatch" "bytes" "[B" (.ref a4) ∧ Fld Z h q "com/example/vitruvius/vitruvius/csv/CsvBatch" "fields" "I" (.int nf) ∧ Fld Z h q "com/example/vitruvius/vitruvius/csv/CsvBatch" "records" "I" (.int nr) ∧ AR Z h a1 .int B ∧ AR Z h a2 .int F ∧ AR Z h a4 .byte (Z0L n) ∧ Exa Z h a4 "[B" ∧ B.length = 64 ∧ F.length = 17 ∧ F[0]? = some (.int (0 : Int32)) ∧ (nr = 1 → F[1]? = some (.int (1 : Int32)))
def DC (n0 : Nat) (q a1 a2 a4 : Addr) : Prop := n0 ≤ q ∧ n0 ≤ a1 ∧ n0 ≤ a2 ∧ n0 ≤ a4 ∧ q ≠ a1 ∧ q ≠ a2 ∧ q ≠ a4 ∧ a1 ≠ a2 ∧ a1 ≠ a4 ∧ a2 ≠ a4
theorem d1_0 : decode jdk_29_method_65_code 0 = .ok (.iload_n 0, 1) := by decide +kernel
theorem d1_1 : decode jdk_29_method_65_code 1 = .ok (.iload_n 1, 1) := by decide +kernel
theorem d1_2 : decode jdk_29_method_65_code 2 = .ok (.if_icmp .lt 7, 3) := by decide +kernel
theorem d1_5 : decode jdk_29_method_65_code 5 = .ok (.iload_n 0, 1) := by decide +kernel
theorem d1_6 : decode jdk_29_method_65_code 6 = .ok (.goto 4, 3) := by decide +kernel
theorem d1_9 : decode jdk_29_method_65_code 9 = .ok (.iload_n 1, 1) := by decide +kernel
theorem d1_10 : decode jdk_29_method_65_code 10 = .ok (.ireturn, 1) := by decide +kernel
theorem pf_1 : plainFor (⟨"java/lang/Math", "max", "(II)I"⟩ : MethodName) = true := by decide +kernel
theorem pd_1 : parseMethodDescriptor "(II)I" = some ⟨[.int, .int], some .int⟩ := by decide +kernel
set_option maxRecDepth 65536 in
set_option maxHeartbeats 40000000 in
theorem con_max (l : Launch) (Z : State) (a0 : Array Value) (hw : ∀ d ∈ tables_1, d.before a0 Z = true) (n0 : Nat) (h0 : Heap) (Z0 : n0 ≤ h0.size) (x y : Int32)  :
    Con l Z (⟨"java/lang/Math", "max", "(II)I"⟩ : MethodName) jdk_29_method_65_code 2 (some .int) [] ({ frames := 0, cells := 0, slots := 0, locals := 0 } : Room) n0 #[(.int x), (.int y)] h0 (fun v h => v = some (.int (mxF x y)) ∧ h = h0) := by
  refine Con.mk pf_1 hw Z0 ?_
  intro p e s m below meth c T0 C X0
  have ef : entryFrame m #[(.int x), (.int y)] 2 = mkF m 0 #[.val (.int x), .val (.int y)] [] := by first | (simp [entryFrame, mkF, argsToLocals, Value.category]; done) | rfl
  rw [ef]
  show Go p e below s n0 _ _ _ (T0.setTop (mkF m 0 #[.val (.int x), .val (.int y)] []))
  refine Go.st (fun _ => XS.iloadN X0.here C.hx rfl (hb C.hby d1_0) rfl) ?_
  show Go p e below s n0 _ _ _ (T0.setTop (mkF m 1 #[.val (.int x), .val (.int y)] [(.int x)]))
  refine Go.st (fun _ => XS.iloadN X0.here C.hx rfl (hb C.hby d1_1) rfl) ?_
  show Go p e below s n0 _ _ _ (T0.setTop (mkF m 2 #[.val (.int x), .val (.int y)] [(.int y), (.int x)]))
  refine Go.icmp_lt C X0 (pc' := 9) d1_2 (by decide) (by decide) (fun hc2_101 => ?_) (fun hc2_101 => ?_)
  · show Go p e below s n0 _ _ _ (T0.setTop (mkF m 9 #[.val (.int x), .val (.int y)] []))
    refine Go.st (fun _ => XS.iloadN X0.here C.hx rfl (hb C.hby d1_9) rfl) ?_
    show Go p e below s n0 _ _ _ (T0.setTop (mkF m 10 #[.val (.int x), .val (.int y)] [(.int y)]))
    exact Go.retI C X0 d1_10 ⟨by simp [mxF, hc2_101], rfl⟩ (by decide) (by decide)
  · show Go p e below s n0 _ _ _ (T0.setTop (mkF m 5 #[.val (.int x), .val (.int y)] []))
    refine Go.st (fun _ => XS.iloadN X0.here C.hx rfl (hb C.hby d1_5) rfl) ?_
    show Go p e below s n0 _ _ _ (T0.setTop (mkF m 6 #[.val (.int x), .val (.int y)] [(.int x)]))
    refine Go.st (fun _ => XS.goto X0.here C.hx rfl (pc0 := 6) (pc' := 10) rfl (hb C.hby d1_6) (by decide) (by decide)) ?_
    show Go p e below s n0 _ _ _ (T0.setTop (mkF m 10 #[.val (.int x), .val (.int y)] [(.int x)]))
    exact Go.retI C X0 d1_10 ⟨by simp [mxF, hc2_101], rfl⟩ (by decide) (by decide)
theorem d6_0 : decode jdk_29_method_69_code 0 = .ok (.iload_n 0, 1) := by decide +kernel
theorem d6_1 : decode jdk_29_method_69_code 1 = .ok (.iload_n 1, 1) := by decide +kernel
theorem d6_2 : decode jdk_29_method_69_code 2 = .ok (.if_icmp .gt 7, 3) := by decide +kernel
theorem d6_5 : decode jdk_29_method_69_code 5 = .ok (.iload_n 0, 1) := by decide +kernel
theorem d6_6 : decode jdk_29_method_69_code 6 = .ok (.goto 4, 3) := by decide +kernel
theorem d6_9 : decode jdk_29_method_69_code 9 = .ok (.iload_n 1, 1) := by decide +kernel
theorem d6_10 : decode jdk_29_method_69_code 10 = .ok (.ireturn, 1) := by decide +kernel
theorem pf_6 : plainFor (⟨"java/lang/Math", "min", "(II)I"⟩ : MethodName) = true := by decide +kernel
theorem pd_6 : parseMethodDescriptor "(II)I" = some ⟨[.int, .int], some .int⟩ := by decide +kernel
set_option maxRecDepth 65536 in
set_option maxHeartbeats 40000000 in
theorem con_min (l : Launch) (Z : State) (a0 : Array Value) (hw : ∀ d ∈ tables_1, d.before a0 Z = true) (n0 : Nat) (h0 : Heap) (Z0 : n0 ≤ h0.size) (x y : Int32)  :
    Con l Z (⟨"java/lang/Math", "min", "(II)I"⟩ : MethodName) jdk_29_method_69_code 2 (some .int) [] ({ frames := 0, cells := 0, slots := 0, locals := 0 } : Room) n0 #[(.int x), (.int y)] h0 (fun v h => v = some (.int (mnF x y)) ∧ h = h0) := by
  refine Con.mk pf_6 hw Z0 ?_
  intro p e s m below meth c T0 C X0
  have ef : entryFrame m #[(.int x), (.int y)] 2 = mkF m 0 #[.val (.int x), .val (.int y)] [] := by first | (simp [entryFrame, mkF, argsToLocals, Value.category]; done) | rfl
  rw [ef]
  show Go p e below s n0 _ _ _ (T0.setTop (mkF m 0 #[.val (.int x), .val (.int y)] []))
  refine Go.st (fun _ => XS.iloadN X0.here C.hx rfl (hb C.hby d6_0) rfl) ?_
  show Go p e below s n0 _ _ _ (T0.setTop (mkF m 1 #[.val (.int x), .val (.int y)] [(.int x)]))
  refine Go.st (fun _ => XS.iloadN X0.here C.hx rfl (hb C.hby d6_1) rfl) ?_
  show Go p e below s n0 _ _ _ (T0.setTop (mkF m 2 #[.val (.int x), .val (.int y)] [(.int y), (.int x)]))
  refine Go.icmp_gt C X0 (pc' := 9) d6_2 (by decide) (by decide) (fun hc2_102 => ?_) (fun hc2_102 => ?_)
  · show Go p e below s n0 _ _ _ (T0.setTop (mkF m 9 #[.val (.int x), .val (.int y)] []))
    refine Go.st (fun _ => XS.iloadN X0.here C.hx rfl (hb C.hby d6_9) rfl) ?_
    show Go p e below s n0 _ _ _ (T0.setTop (mkF m 10 #[.val (.int x), .val (.int y)] [(.int y)]))
    exact Go.retI C X0 d6_10 ⟨by simp [mnF, hc2_102], rfl⟩ (by decide) (by decide)
  · show Go p e below s n0 _ _ _ (T0.setTop (mkF m 5 #[.val (.int x), .val (.int y)] []))
    refine Go.st (fun _ => XS.iloadN X0.here C.hx rfl (hb C.hby d6_5) rfl) ?_
    show Go p e below s n0 _ _ _ (T0.setTop (mkF m 6 #[.val (.int x), .val (.int y)] [(.int x)]))
    refine Go.st (fun _ => XS.goto X0.here C.hx rfl (pc0 := 6) (pc' := 10) rfl (hb C.hby d6_6) (by decide) (by decide)) ?_
    show Go p e below s n0 _ _ _ (T0.setTop (mkF m 10 #[.val (.int x), .val (.int y)] [(.int x)]))
    exact Go.retI C X0 d6_10 ⟨by simp [mnF, hc2_102], rfl⟩ (by decide) (by decide)
theorem d5_0 : decode jdk_65_method_121_code 0 = .ok (.iload_n 1, 1) := by decide +kernel
theorem d5_1 : decode jdk_65_method_121_code 1 = .ok (.aload_n 0, 1) := by decide +kernel
theorem d5_2 : decode jdk_65_method_121_code 2 = .ok (.arraylength, 1) := by decide +kernel
theorem d5_3 : decode jdk_65_method_121_code 3 = .ok (.if_icmp .ne 11, 3) := by decide +kernel
theorem d5_6 : decode jdk_65_method_121_code 6 = .ok (.aload_n 0, 1) := by decide +kernel
theorem d5_7 : decode jdk_65_method_121_code 7 = .ok (.invokevirtual 310, 3) := by decide +kernel
theorem d5_10 : decode jdk_65_method_121_code 10 = .ok (.checkcast 311, 3) := by decide +kernel
theorem d5_13 : decode jdk_65_method_121_code 13 = .ok (.areturn, 1) := by decide +kernel
theorem d5_14 : decode jdk_65_method_121_code 14 = .ok (.iload_n 1, 1) := by decide +kernel
theorem d5_15 : decode jdk_65_method_121_code 15 = .ok (.newarray .byte, 2) := by decide +kernel
theorem d5_17 : decode jdk_65_method_121_code 17 = .ok (.astore_n 2, 1) := by decide +kernel
theorem d5_18 : decode jdk_65_method_121_code 18 = .ok (.aload_n 0, 1) := by decide +kernel
theorem d5_19 : decode jdk_65_method_121_code 19 = .ok (.iconst 0, 1) := by decide +kernel
theorem d5_20 : decode jdk_65_method_121_code 20 = .ok (.aload_n 2, 1) := by decide +kernel
theorem d5_21 : decode jdk_65_method_121_code 21 = .ok (.iconst 0, 1) := by decide +kernel
theorem d5_22 : decode jdk_65_method_121_code 22 = .ok (.aload_n 0, 1) := by decide +kernel
theorem d5_23 : decode jdk_65_method_121_code 23 = .ok (.arraylength, 1) := by decide +kernel
theorem d5_24 : decode jdk_65_method_121_code 24 = .ok (.iload_n 1, 1) := by decide +kernel
theorem d5_25 : decode jdk_65_method_121_code 25 = .ok (.invokestatic 304, 3) := by decide +kernel
theorem d5_28 : decode jdk_65_method_121_code 28 = .ok (.invokestatic 150, 3) := by decide +kernel
theorem d5_31 : decode jdk_65_method_121_code 31 = .ok (.aload_n 2, 1) := by decide +kernel
theorem d5_32 : decode jdk_65_method_121_code 32 = .ok (.areturn, 1) := by decide +kernel
theorem pf_5 : plainFor (⟨"java/util/Arrays", "copyOf", "([BI)[B"⟩ : MethodName) = true := plainFor_of_name (by first | (simp [plainName, overriddenIn]; done) | decide +kernel)
theorem pd_5 : parseMethodDescriptor "([BI)[B" = some ⟨[(.array .byte), .int], some (.array .byte)⟩ := by decide +kernel
set_option maxRecDepth 65536 in
set_option maxHeartbeats 40000000 in
theorem con_copy (l : Launch) (Z : State) (a0 : Array Value) (hw : ∀ d ∈ tables_1, d.before a0 Z = true) (n0 : Nat) (h0 : Heap) (Z0 : n0 ≤ h0.size) (a : Addr) (n k : Nat) (kz : Int32) (A : AR Z h0 a .byte (Z0L n)) (E : Exa Z h0 a "[B") (hn : n < 64) (hk : k < 64) (hkz : kz = k.toInt32) :
    Con l Z (⟨"java/util/Arrays", "copyOf", "([BI)[B"⟩ : MethodName) jdk_65_method_121_code 3 (some (.array .byte)) [] ({ frames := 1, cells := 1, slots := 64, locals := 40 } : Room) n0 #[(.ref a), (.int kz)] h0 (fun v h => ∃ b, v = some (.ref b) ∧ AR Z h b .byte (Z0L k) ∧ Exa Z h b "[B" ∧ Keep h0 h [] ∧ h0.size ≤ b) := by
  refine Con.mk pf_5 hw Z0 ?_
  intro p e s m below meth c T0 C X0
  have ef : entryFrame m #[(.ref a), (.int kz)] 3 = mkF m 0 #[.val (.ref a), .val (.int kz), .unset] [] := by first | (simp [entryFrame, mkF, argsToLocals, Value.category]; done) | rfl
  rw [ef]
  subst hkz
  show Go p e below s n0 _ _ _ (T0.setTop (mkF m 0 #[.val (.ref a), .val (.int k.toInt32), .unset] []))
  refine Go.st (fun _ => XS.iloadN X0.here C.hx rfl (hb C.hby d5_0) rfl) ?_
  show Go p e below s n0 _ _ _ (T0.setTop (mkF m 1 #[.val (.ref a), .val (.int k.toInt32), .unset] [(.int k.toInt32)]))
  refine Go.st (fun _ => XS.aloadN X0.here C.hx rfl (hb C.hby d5_1) rfl rfl) ?_
  show Go p e below s n0 _ _ _ (T0.setTop (mkF m 2 #[.val (.ref a), .val (.int k.toInt32), .unset] [(.ref a), (.int k.toInt32)]))
  refine Go.alen C X0 A (z := n.toInt32) (by unfold Z0L; rw [List.length_replicate]) d5_2 ?_
  show Go p e below s n0 _ _ _ (T0.setTop (mkF m 3 #[.val (.ref a), .val (.int k.toInt32), .unset] [(.int n.toInt32), (.int k.toInt32)]))
  refine Go.icmp_ne C X0 (pc' := 14) d5_3 (by decide) (by decide) (fun hc3_103 => ?_) (fun hc3_103 => ?_)
  · show Go p e below s n0 _ _ _ (T0.setTop (mkF m 14 #[.val (.ref a), .val (.int k.toInt32), .unset] []))
    refine Go.st (fun _ => XS.iloadN X0.here C.hx rfl (hb C.hby d5_14) rfl) ?_
    show Go p e below s n0 _ _ _ (T0.setTop (mkF m 15 #[.val (.ref a), .val (.int k.toInt32), .unset] [(.int k.toInt32)]))
    refine Go.newPE C X0 (aty := .byte) (cap := 64) (ad := "[B") (wd 24 rfl) (by decide) d5_15 (nn32 (by omega)) (by rw [cl32 (by omega)]; omega) (by decide) (by decide) (by decide) (fun T104 h104 b104 g104 ge104 X104 E104 A104 EX104 => ?_)
    have ne_a_b104 : a ≠ b104 := Nat.ne_of_lt (Nat.lt_of_lt_of_le (A).lt (Nat.le_of_eq g104))
    have K104 : Keep h0 h104 [] := (Keep.refl h0 []).ext E104
    have old_b104 : h0.size ≤ b104 := Nat.le_trans (Keep.refl h0 []).1 (Nat.le_of_eq g104)
    have A_b104 : AR Z h104 b104 .byte (Z0L k) := (by have u := A104; rw [cl32 (by omega)] at u; exact u)
    show Go p e below s n0 _ _ _ (T104.setTop (mkF m 17 #[.val (.ref a), .val (.int k.toInt32), .unset] [(.ref b104)]))
    refine Go.st (fun _ => XS.astoreN X104.here C.hx rfl (hb C.hby d5_17) rfl rfl (l' := #[.val (.ref a), .val (.int k.toInt32), .val (.ref b104)]) rfl) ?_
    show Go p e below s n0 _ _ _ (T104.setTop (mkF m 18 #[.val (.ref a), .val (.int k.toInt32), .val (.ref b104)] []))
    refine Go.st (fun _ => XS.aloadN X104.here C.hx rfl (hb C.hby d5_18) rfl rfl) ?_
    show Go p e below s n0 _ _ _ (T104.setTop (mkF m 19 #[.val (.ref a), .val (.int k.toInt32), .val (.ref b104)] [(.ref a)]))
    refine Go.st (fun _ => XS.iconst X104.here C.hx rfl (hb C.hby d5_19)) ?_
    show Go p e below s n0 _ _ _ (T104.setTop (mkF m 20 #[.val (.ref a), .val (.int k.toInt32), .val (.ref b104)] [(.int (0 : Int32)), (.ref a)]))
    refine Go.st (fun _ => XS.aloadN X104.here C.hx rfl (hb C.hby d5_20) rfl rfl) ?_
    show Go p e below s n0 _ _ _ (T104.setTop (mkF m 21 #[.val (.ref a), .val (.int k.toInt32), .val (.ref b104)] [(.ref b104), (.int (0 : Int32)), (.ref a)]))
    refine Go.st (fun _ => XS.iconst X104.here C.hx rfl (hb C.hby d5_21)) ?_
    show Go p e below s n0 _ _ _ (T104.setTop (mkF m 22 #[.val (.ref a), .val (.int k.toInt32), .val (.ref b104)] [(.int (0 : Int32)), (.ref b104), (.int (0 : Int32)), (.ref a)]))
    refine Go.st (fun _ => XS.aloadN X104.here C.hx rfl (hb C.hby d5_22) rfl rfl) ?_
    show Go p e below s n0 _ _ _ (T104.setTop (mkF m 23 #[.val (.ref a), .val (.int k.toInt32), .val (.ref b104)] [(.ref a), (.int (0 : Int32)), (.ref b104), (.int (0 : Int32)), (.ref a)]))
    refine Go.alen C X104 (A.ext E104) (z := n.toInt32) (by unfold Z0L; rw [List.length_replicate]) d5_23 ?_
    show Go p e below s n0 _ _ _ (T104.setTop (mkF m 24 #[.val (.ref a), .val (.int k.toInt32), .val (.ref b104)] [(.int n.toInt32), (.int (0 : Int32)), (.ref b104), (.int (0 : Int32)), (.ref a)]))
    refine Go.st (fun _ => XS.iloadN X104.here C.hx rfl (hb C.hby d5_24) rfl) ?_
    show Go p e below s n0 _ _ _ (T104.setTop (mkF m 25 #[.val (.ref a), .val (.int k.toInt32), .val (.ref b104)] [(.int k.toInt32), (.int n.toInt32), (.int (0 : Int32)), (.ref b104), (.int (0 : Int32)), (.ref a)]))
    refine Go.callS C X104 (W := 4) (argsL := [(.int n.toInt32), (.int k.toInt32)]) (rest := [(.int (0 : Int32)), (.ref b104), (.int (0 : Int32)), (.ref a)]) (wd 36 rfl) (wd 37 rfl) (wd 2 rfl) (wd 38 rfl) (by decide) (con_min l Z a0 hw n0 h104 X104.size n.toInt32 k.toInt32) (by decide) (by decide) rfl (lenOf pd_6 rfl) (Nat.le_of_ble_eq_true rfl) rfl d5_25 (by decide) (by decide) (fun T105 h105 v105 X105 hQ105 => ?_)
    obtain ⟨rfl, hh105⟩ := hQ105
    rw [hh105] at X105
    show Go p e below s n0 _ _ _ (T105.setTop (mkF m 28 #[.val (.ref a), .val (.int k.toInt32), .val (.ref b104)] [(.int (mnF n.toInt32 k.toInt32)), (.int (0 : Int32)), (.ref b104), (.int (0 : Int32)), (.ref a)]))
    refine Go.acopy0 C X105 (W := 0) (n1 := n) (n2 := k) (wd 39 rfl) (wd 42 rfl) (wd 40 rfl) (wd 41 rfl) (A.ext E104) A_b104 (mnN (by omega) (by omega)).1 (mnN (by omega) (by omega)).2.1 (mnN (by omega) (by omega)).2.2 ge104 rfl d5_28 (by decide) (by decide) (by decide) (fun T106 h106 X106 K106 A106 => ?_)
    have KK106 : Keep h0 h106 [] := K104.trans K106 (fun x hx => by cases List.mem_singleton.mp hx; exact Or.inr old_b104)
    show Go p e below s n0 _ _ _ (T106.setTop (mkF m 31 #[.val (.ref a), .val (.int k.toInt32), .val (.ref b104)] []))
    refine Go.st (fun _ => XS.aloadN X106.here C.hx rfl (hb C.hby d5_31) rfl rfl) ?_
    show Go p e below s n0 _ _ _ (T106.setTop (mkF m 32 #[.val (.ref a), .val (.int k.toInt32), .val (.ref b104)] [(.ref b104)]))
    exact Go.retA C X106 rfl rfl d5_32 ⟨_, rfl, A106, (EX104.keep K106), KK106, old_b104⟩ (by decide) (by decide)
  · show Go p e below s n0 _ _ _ (T0.setTop (mkF m 6 #[.val (.ref a), .val (.int k.toInt32), .unset] []))
    refine Go.st (fun _ => XS.aloadN X0.here C.hx rfl (hb C.hby d5_6) rfl rfl) ?_
    show Go p e below s n0 _ _ _ (T0.setTop (mkF m 7 #[.val (.ref a), .val (.int k.toInt32), .unset] [(.ref a)]))
    refine Go.clone C X0 (W := 0) (cap := 64) (wd 77 rfl) (wd 78 rfl) (wd 82 rfl) (wd 80 rfl) (wd 81 rfl) (wd 83 rfl) (AF.zero A) E rfl d5_7 (by decide) (Nat.le_of_ble_eq_true rfl) (by decide) (by rw [List.length_replicate]; omega) (by decide) (by decide) (fun T107 h107 b107 g107 ge107 X107 E107 A107 EX107 => ?_)
    have ne_a_b107 : a ≠ b107 := Nat.ne_of_lt (Nat.lt_of_lt_of_le (A).lt (Nat.le_of_eq g107))
    have K107 : Keep h0 h107 [] := (Keep.refl h0 []).ext E107
    have old_b107 : h0.size ≤ b107 := Nat.le_trans (Keep.refl h0 []).1 (Nat.le_of_eq g107)
    show Go p e below s n0 _ _ _ (T107.setTop (mkF m 10 #[.val (.ref a), .val (.int k.toInt32), .unset] [(.ref b107)]))
    refine Go.cast C X107 (wd 84 rfl) (Ins.self EX107) d5_10 (fun T108 X108 => ?_)
    show Go p e below s n0 _ _ _ (T108.setTop (mkF m 13 #[.val (.ref a), .val (.int k.toInt32), .unset] [(.ref b107)]))
    exact Go.retA C X108 rfl rfl d5_13 ⟨_, rfl, (by have u : k = n := (eqI (by omega) (by omega)).mp hc3_103; rw [u]; exact A107), EX107, K107, old_b107⟩ (by decide) (by decide)
theorem d2_0 : decode prog_1_method_2_code 0 = .ok (.aload_n 0, 1) := by decide +kernel
theorem d2_1 : decode prog_1_method_2_code 1 = .ok (.invokespecial 8, 3) := by decide +kernel
theorem d2_4 : decode prog_1_method_2_code 4 = .ok (.aload_n 0, 1) := by decide +kernel
theorem d2_5 : decode prog_1_method_2_code 5 = .ok (.bipush 64, 2) := by decide +kernel
theorem d2_7 : decode prog_1_method_2_code 7 = .ok (.newarray .int, 2) := by decide +kernel
theorem d2_9 : decode prog_1_method_2_code 9 = .ok (.putfield 13, 3) := by decide +kernel
theorem d2_12 : decode prog_1_method_2_code 12 = .ok (.aload_n 0, 1) := by decide +kernel
theorem d2_13 : decode prog_1_method_2_code 13 = .ok (.bipush 17, 2) := by decide +kernel
theorem d2_15 : decode prog_1_method_2_code 15 = .ok (.newarray .int, 2) := by decide +kernel
theorem d2_17 : decode prog_1_method_2_code 17 = .ok (.putfield 17, 3) := by decide +kernel
theorem d2_20 : decode prog_1_method_2_code 20 = .ok (.aload_n 0, 1) := by decide +kernel
theorem d2_21 : decode prog_1_method_2_code 21 = .ok (.bipush 16, 2) := by decide +kernel
theorem d2_23 : decode prog_1_method_2_code 23 = .ok (.newarray .long, 2) := by decide +kernel
theorem d2_25 : decode prog_1_method_2_code 25 = .ok (.putfield 20, 3) := by decide +kernel
theorem d2_28 : decode prog_1_method_2_code 28 = .ok (.aload_n 0, 1) := by decide +kernel
theorem d2_29 : decode prog_1_method_2_code 29 = .ok (.iload_n 1, 1) := by decide +kernel
theorem d2_30 : decode prog_1_method_2_code 30 = .ok (.iconst 1, 1) := by decide +kernel
theorem d2_31 : decode prog_1_method_2_code 31 = .ok (.invokestatic 24, 3) := by decide +kernel
theorem d2_34 : decode prog_1_method_2_code 34 = .ok (.putfield 30, 3) := by decide +kernel
theorem d2_37 : decode prog_1_method_2_code 37 = .ok (.aload_n 0, 1) := by decide +kernel
theorem d2_38 : decode prog_1_method_2_code 38 = .ok (.aload_n 0, 1) := by decide +kernel
theorem d2_39 : decode prog_1_method_2_code 39 = .ok (.getfield 30, 3) := by decide +kernel
theorem d2_42 : decode prog_1_method_2_code 42 = .ok (.newarray .byte, 2) := by decide +kernel
theorem d2_44 : decode prog_1_method_2_code 44 = .ok (.putfield 34, 3) := by decide +kernel
theorem d2_47 : decode prog_1_method_2_code 47 = .ok (.return_, 1) := by decide +kernel
theorem pf_2 : plainFor (⟨"com/example/vitruvius/vitruvius/csv/CsvBatch", "<init>", "(I)V"⟩ : MethodName) = true := plainFor_of_name (by first | (simp [plainName, overriddenIn]; done) | decide +kernel)
theorem pd_2 : parseMethodDescriptor "(I)V" = some ⟨[.int], none⟩ := by decide +kernel
set_option maxRecDepth 65536 in
set_option maxHeartbeats 40000000 in
theorem con_init (l : Launch) (Z : State) (a0 : Array Value) (hw : ∀ d ∈ tables_1, d.before a0 Z = true) (n0 : Nat) (h0 : Heap) (Z0 : n0 ≤ h0.size) (q : Addr) (x : Int32) (cp : Nat) (gq : n0 ≤ q) (E : Exa Z h0 q "com/example/vitruvius/vitruvius/csv/CsvBatch") (Fbounds : Fld Z h0 q "com/example/vitruvius/vitruvius/csv/CsvBatch" "bounds" "[I" .null) (FfirstFields : Fld Z h0 q "com/example/vitruvius/vitruvius/csv/CsvBatch" "firstFields" "[I" .null) (Fcapacity : Fld Z h0 q "com/example/vitruvius/vitruvius/csv/CsvBatch" "capacity" "I" (.int (0 : Int32))) (Fbytes : Fld Z h0 q "com/example/vitruvius/vitruvius/csv/CsvBatch" "bytes" "[B" .null) (Ffields : Fld Z h0 q "com/example/vitruvius/vitruvius/csv/CsvBatch" "fields" "I" (.int (0 : Int32))) (Frecords : Fld Z h0 q "com/example/vitruvius/vitruvius/csv/CsvBatch" "records" "I" (.int (0 : Int32))) (Flines : Fld Z h0 q "com/example/vitruvius/vitruvius/csv/CsvBatch" "lines" "[J" .null) (hcp : mxF x 1 = cp.toInt32) (hc0 : 0 < cp) (hc48 : cp < 48) :
    Con l Z (⟨"com/example/vitruvius/vitruvius/csv/CsvBatch", "<init>", "(I)V"⟩ : MethodName) prog_1_method_2_code 2 none [] ({ frames := 1, cells := 4, slots := 145, locals := 16 } : Room) n0 #[(.ref q), (.int x)] h0 (fun v h => v = none ∧ ∃ a1 a2 a4, DC n0 q a1 a2 a4 ∧ CB Z h q a1 a2 a4 cp cp 0 0 (Z0L 64) (Z0L 17)) := by
  refine Con.mk pf_2 hw Z0 ?_
  intro p e s m below meth c T0 C X0
  have ef : entryFrame m #[(.ref q), (.int x)] 2 = mkF m 0 #[.val (.ref q), .val (.int x)] [] := by first | (simp [entryFrame, mkF, argsToLocals, Value.category]; done) | rfl
  rw [ef]
  show Go p e below s n0 _ _ _ (T0.setTop (mkF m 0 #[.val (.ref q), .val (.int x)] []))
  refine Go.st (fun _ => XS.aloadN X0.here C.hx rfl (hb C.hby d2_0) rfl rfl) ?_
  show Go p e below s n0 _ _ _ (T0.setTop (mkF m 1 #[.val (.ref q), .val (.int x)] [(.ref q)]))
  refine Go.initO C X0 (W := 0) (wd 10 rfl) (wd 11 rfl) (wd 12 rfl) rfl d2_1 (by decide) (Nat.le_of_ble_eq_true rfl) (by decide) (fun T109 X109 => ?_)
  show Go p e below s n0 _ _ _ (T109.setTop (mkF m 4 #[.val (.ref q), .val (.int x)] []))
  refine Go.st (fun _ => XS.aloadN X109.here C.hx rfl (hb C.hby d2_4) rfl rfl) ?_
  show Go p e below s n0 _ _ _ (T109.setTop (mkF m 5 #[.val (.ref q), .val (.int x)] [(.ref q)]))
  refine Go.st (fun _ => XS.bipush X109.here C.hx rfl (hb C.hby d2_5)) ?_
  show Go p e below s n0 _ _ _ (T109.setTop (mkF m 7 #[.val (.ref q), .val (.int x)] [(.int (64 : Int32)), (.ref q)]))
  refine Go.newP C X109 (aty := .int) (cap := 64) (wd 13 rfl) d2_7 (by decide) (by decide) (by decide) (by decide) (by decide) (fun T110 h110 b110 g110 ge110 X110 E110 A110 => ?_)
  have ne_q_b110 : q ≠ b110 := Nat.ne_of_lt (Nat.lt_of_lt_of_le (E).lt (Nat.le_of_eq g110))
  show Go p e below s n0 _ _ _ (T110.setTop (mkF m 9 #[.val (.ref q), .val (.int x)] [(.ref b110), (.ref q)]))
  refine Go.putF C X110 (wd 14 rfl) (Fld.ext E110 Fbounds) (Exa.ext E110 E) (Or.inl (wd 15 rfl)) (wd 5 rfl) (ty := (.array .int)) (by decide) rfl rfl gq d2_9 (fun T111 h111 X111 W111 F111 => ?_)
  have FfirstFields_112 : Fld Z h111 q "com/example/vitruvius/vitruvius/csv/CsvBatch" "firstFields" "[I" .null := (Fld.other W111 (Fld.ext E110 FfirstFields) (Or.inr (slot_ne (Or.inl (C.w (wd 17 rfl))) (Or.inl (C.w (wd 15 rfl))) (by decide) (t := (.array .int)) (t' := (.array .int)) (by decide) (by decide))))
  have Fcapacity_113 : Fld Z h111 q "com/example/vitruvius/vitruvius/csv/CsvBatch" "capacity" "I" (.int (0 : Int32)) := (Fld.other W111 (Fld.ext E110 Fcapacity) (Or.inr (slot_ne (Or.inr (C.w (wd 23 rfl))) (Or.inl (C.w (wd 15 rfl))) (by decide) (t := .int) (t' := (.array .int)) (by decide) (by decide))))
  have Fbytes_114 : Fld Z h111 q "com/example/vitruvius/vitruvius/csv/CsvBatch" "bytes" "[B" .null := (Fld.other W111 (Fld.ext E110 Fbytes) (Or.inr (slot_ne (Or.inl (C.w (wd 26 rfl))) (Or.inl (C.w (wd 15 rfl))) (by decide) (t := (.array .byte)) (t' := (.array .int)) (by decide) (by decide))))
  have Ffields_115 : Fld Z h111 q "com/example/vitruvius/vitruvius/csv/CsvBatch" "fields" "I" (.int (0 : Int32)) := (Fld.other W111 (Fld.ext E110 Ffields) (Or.inr (slot_ne (Or.inl (C.w (wd 49 rfl))) (Or.inl (C.w (wd 15 rfl))) (by decide) (t := .int) (t' := (.array .int)) (by decide) (by decide))))
  have Frecords_116 : Fld Z h111 q "com/example/vitruvius/vitruvius/csv/CsvBatch" "records" "I" (.int (0 : Int32)) := (Fld.other W111 (Fld.ext E110 Frecords) (Or.inr (slot_ne (Or.inl (C.w (wd 56 rfl))) (Or.inl (C.w (wd 15 rfl))) (by decide) (t := .int) (t' := (.array .int)) (by decide) (by decide))))
  have Flines_117 : Fld Z h111 q "com/example/vitruvius/vitruvius/csv/CsvBatch" "lines" "[J" .null := (Fld.other W111 (Fld.ext E110 Flines) (Or.inr (slot_ne (Or.inl (C.w (wd 20 rfl))) (Or.inl (C.w (wd 15 rfl))) (by decide) (t := (.array .long)) (t' := (.array .int)) (by decide) (by decide))))
  show Go p e below s n0 _ _ _ (T111.setTop (mkF m 12 #[.val (.ref q), .val (.int x)] []))
  refine Go.st (fun _ => XS.aloadN X111.here C.hx rfl (hb C.hby d2_12) rfl rfl) ?_
  show Go p e below s n0 _ _ _ (T111.setTop (mkF m 13 #[.val (.ref q), .val (.int x)] [(.ref q)]))
  refine Go.st (fun _ => XS.bipush X111.here C.hx rfl (hb C.hby d2_13)) ?_
  show Go p e below s n0 _ _ _ (T111.setTop (mkF m 15 #[.val (.ref q), .val (.int x)] [(.int (17 : Int32)), (.ref q)]))
  refine Go.newP C X111 (aty := .int) (cap := 17) (wd 13 rfl) d2_15 (by decide) (by decide) (by decide) (by decide) (by decide) (fun T118 h118 b118 g118 ge118 X118 E118 A118 => ?_)
  have ne_q_b118 : q ≠ b118 := Nat.ne_of_lt (Nat.lt_of_lt_of_le ((Exa.wr W111 (Exa.ext E110 E))).lt (Nat.le_of_eq g118))
  have ne_b110_b118 : b110 ≠ b118 := Nat.ne_of_lt (Nat.lt_of_lt_of_le ((A110.other W111 (Ne.symm ne_q_b110))).lt (Nat.le_of_eq g118))
  have E_119 : Exa Z h118 q "com/example/vitruvius/vitruvius/csv/CsvBatch" := (Exa.ext E118 (Exa.wr W111 (Exa.ext E110 E)))
  have A_b110_120 : AR Z h118 b110 .int (List.replicate ((64 : Int32)).toNatClampNeg (.int (0 : Int32))) := ((A110.other W111 (Ne.symm ne_q_b110)).ext E118)
  show Go p e below s n0 _ _ _ (T118.setTop (mkF m 17 #[.val (.ref q), .val (.int x)] [(.ref b118), (.ref q)]))
  refine Go.putF C X118 (wd 16 rfl) (Fld.ext E118 FfirstFields_112) E_119 (Or.inl (wd 17 rfl)) (wd 5 rfl) (ty := (.array .int)) (by decide) rfl rfl gq d2_17 (fun T121 h121 X121 W121 F121 => ?_)
  have Fbounds_122 : Fld Z h121 q "com/example/vitruvius/vitruvius/csv/CsvBatch" "bounds" "[I" (.ref b110) := (Fld.other W121 (Fld.ext E118 F111) (Or.inr (slot_ne (Or.inl (C.w (wd 15 rfl))) (Or.inl (C.w (wd 17 rfl))) (by decide) (t := (.array .int)) (t' := (.array .int)) (by decide) (by decide))))
  have Fcapacity_123 : Fld Z h121 q "com/example/vitruvius/vitruvius/csv/CsvBatch" "capacity" "I" (.int (0 : Int32)) := (Fld.other W121 (Fld.ext E118 Fcapacity_113) (Or.inr (slot_ne (Or.inr (C.w (wd 23 rfl))) (Or.inl (C.w (wd 17 rfl))) (by decide) (t := .int) (t' := (.array .int)) (by decide) (by decide))))
  have Fbytes_124 : Fld Z h121 q "com/example/vitruvius/vitruvius/csv/CsvBatch" "bytes" "[B" .null := (Fld.other W121 (Fld.ext E118 Fbytes_114) (Or.inr (slot_ne (Or.inl (C.w (wd 26 rfl))) (Or.inl (C.w (wd 17 rfl))) (by decide) (t := (.array .byte)) (t' := (.array .int)) (by decide) (by decide))))
  have Ffields_125 : Fld Z h121 q "com/example/vitruvius/vitruvius/csv/CsvBatch" "fields" "I" (.int (0 : Int32)) := (Fld.other W121 (Fld.ext E118 Ffields_115) (Or.inr (slot_ne (Or.inl (C.w (wd 49 rfl))) (Or.inl (C.w (wd 17 rfl))) (by decide) (t := .int) (t' := (.array .int)) (by decide) (by decide))))
  have Frecords_126 : Fld Z h121 q "com/example/vitruvius/vitruvius/csv/CsvBatch" "records" "I" (.int (0 : Int32)) := (Fld.other W121 (Fld.ext E118 Frecords_116) (Or.inr (slot_ne (Or.inl (C.w (wd 56 rfl))) (Or.inl (C.w (wd 17 rfl))) (by decide) (t := .int) (t' := (.array .int)) (by decide) (by decide))))
  have Flines_127 : Fld Z h121 q "com/example/vitruvius/vitruvius/csv/CsvBatch" "lines" "[J" .null := (Fld.other W121 (Fld.ext E118 Flines_117) (Or.inr (slot_ne (Or.inl (C.w (wd 20 rfl))) (Or.inl (C.w (wd 17 rfl))) (by decide) (t := (.array .long)) (t' := (.array .int)) (by decide) (by decide))))
  have A_b110_128 : AR Z h121 b110 .int (List.replicate ((64 : Int32)).toNatClampNeg (.int (0 : Int32))) := (A_b110_120.other W121 (Ne.symm ne_q_b110))
  show Go p e below s n0 _ _ _ (T121.setTop (mkF m 20 #[.val (.ref q), .val (.int x)] []))
  refine Go.st (fun _ => XS.aloadN X121.here C.hx rfl (hb C.hby d2_20) rfl rfl) ?_
  show Go p e below s n0 _ _ _ (T121.setTop (mkF m 21 #[.val (.ref q), .val (.int x)] [(.ref q)]))
  refine Go.st (fun _ => XS.bipush X121.here C.hx rfl (hb C.hby d2_21)) ?_
  show Go p e below s n0 _ _ _ (T121.setTop (mkF m 23 #[.val (.ref q), .val (.int x)] [(.int (16 : Int32)), (.ref q)]))
  refine Go.newP C X121 (aty := .long) (cap := 16) (wd 18 rfl) d2_23 (by decide) (by decide) (by decide) (by decide) (by decide) (fun T129 h129 b129 g129 ge129 X129 E129 A129 => ?_)
  have ne_q_b129 : q ≠ b129 := Nat.ne_of_lt (Nat.lt_of_lt_of_le ((Exa.wr W121 E_119)).lt (Nat.le_of_eq g129))
  have ne_b110_b129 : b110 ≠ b129 := Nat.ne_of_lt (Nat.lt_of_lt_of_le (A_b110_128).lt (Nat.le_of_eq g129))
  have ne_b118_b129 : b118 ≠ b129 := Nat.ne_of_lt (Nat.lt_of_lt_of_le ((A118.other W121 (Ne.symm ne_q_b118))).lt (Nat.le_of_eq g129))
  have A_b129 : AR Z h129 b129 .long [(.long (0 : Int64)), (.long (0 : Int64)), (.long (0 : Int64)), (.long (0 : Int64)), (.long (0 : Int64)), (.long (0 : Int64)), (.long (0 : Int64)), (.long (0 : Int64)), (.long (0 : Int64)), (.long (0 : Int64)), (.long (0 : Int64)), (.long (0 : Int64)), (.long (0 : Int64)), (.long (0 : Int64)), (.long (0 : Int64)), (.long (0 : Int64))] := A129
  have A_b118_130 : AR Z h129 b118 .int (List.replicate ((17 : Int32)).toNatClampNeg (.int (0 : Int32))) := ((A118.other W121 (Ne.symm ne_q_b118)).ext E129)
  show Go p e below s n0 _ _ _ (T129.setTop (mkF m 25 #[.val (.ref q), .val (.int x)] [(.ref b129), (.ref q)]))
  refine Go.putF C X129 (wd 19 rfl) (Fld.ext E129 Flines_127) (Exa.ext E129 (Exa.wr W121 E_119)) (Or.inl (wd 20 rfl)) (wd 5 rfl) (ty := (.array .long)) (by decide) rfl rfl gq d2_25 (fun T131 h131 X131 W131 F131 => ?_)
  have E_132 : Exa Z h131 q "com/example/vitruvius/vitruvius/csv/CsvBatch" := (Exa.wr W131 (Exa.ext E129 (Exa.wr W121 E_119)))
  have Fbounds_133 : Fld Z h131 q "com/example/vitruvius/vitruvius/csv/CsvBatch" "bounds" "[I" (.ref b110) := (Fld.other W131 (Fld.ext E129 Fbounds_122) (Or.inr (slot_ne (Or.inl (C.w (wd 15 rfl))) (Or.inl (C.w (wd 20 rfl))) (by decide) (t := (.array .int)) (t' := (.array .long)) (by decide) (by decide))))
  have FfirstFields_134 : Fld Z h131 q "com/example/vitruvius/vitruvius/csv/CsvBatch" "firstFields" "[I" (.ref b118) := (Fld.other W131 (Fld.ext E129 F121) (Or.inr (slot_ne (Or.inl (C.w (wd 17 rfl))) (Or.inl (C.w (wd 20 rfl))) (by decide) (t := (.array .int)) (t' := (.array .long)) (by decide) (by decide))))
  have Fcapacity_135 : Fld Z h131 q "com/example/vitruvius/vitruvius/csv/CsvBatch" "capacity" "I" (.int (0 : Int32)) := (Fld.other W131 (Fld.ext E129 Fcapacity_123) (Or.inr (slot_ne (Or.inr (C.w (wd 23 rfl))) (Or.inl (C.w (wd 20 rfl))) (by decide) (t := .int) (t' := (.array .long)) (by decide) (by decide))))
  have Fbytes_136 : Fld Z h131 q "com/example/vitruvius/vitruvius/csv/CsvBatch" "bytes" "[B" .null := (Fld.other W131 (Fld.ext E129 Fbytes_124) (Or.inr (slot_ne (Or.inl (C.w (wd 26 rfl))) (Or.inl (C.w (wd 20 rfl))) (by decide) (t := (.array .byte)) (t' := (.array .long)) (by decide) (by decide))))
  have Ffields_137 : Fld Z h131 q "com/example/vitruvius/vitruvius/csv/CsvBatch" "fields" "I" (.int (0 : Int32)) := (Fld.other W131 (Fld.ext E129 Ffields_125) (Or.inr (slot_ne (Or.inl (C.w (wd 49 rfl))) (Or.inl (C.w (wd 20 rfl))) (by decide) (t := .int) (t' := (.array .long)) (by decide) (by decide))))
  have Frecords_138 : Fld Z h131 q "com/example/vitruvius/vitruvius/csv/CsvBatch" "records" "I" (.int (0 : Int32)) := (Fld.other W131 (Fld.ext E129 Frecords_126) (Or.inr (slot_ne (Or.inl (C.w (wd 56 rfl))) (Or.inl (C.w (wd 20 rfl))) (by decide) (t := .int) (t' := (.array .long)) (by decide) (by decide))))
  have A_b110_139 : AR Z h131 b110 .int (List.replicate ((64 : Int32)).toNatClampNeg (.int (0 : Int32))) := ((A_b110_128.ext E129).other W131 (Ne.symm ne_q_b110))
  have A_b118_140 : AR Z h131 b118 .int (List.replicate ((17 : Int32)).toNatClampNeg (.int (0 : Int32))) := (A_b118_130.other W131 (Ne.symm ne_q_b118))
  show Go p e below s n0 _ _ _ (T131.setTop (mkF m 28 #[.val (.ref q), .val (.int x)] []))
  refine Go.st (fun _ => XS.aloadN X131.here C.hx rfl (hb C.hby d2_28) rfl rfl) ?_
  show Go p e below s n0 _ _ _ (T131.setTop (mkF m 29 #[.val (.ref q), .val (.int x)] [(.ref q)]))
  refine Go.st (fun _ => XS.iloadN X131.here C.hx rfl (hb C.hby d2_29) rfl) ?_
  show Go p e below s n0 _ _ _ (T131.setTop (mkF m 30 #[.val (.ref q), .val (.int x)] [(.int x), (.ref q)]))
  refine Go.st (fun _ => XS.iconst X131.here C.hx rfl (hb C.hby d2_30)) ?_
  show Go p e below s n0 _ _ _ (T131.setTop (mkF m 31 #[.val (.ref q), .val (.int x)] [(.int (1 : Int32)), (.int x), (.ref q)]))
  refine Go.callS C X131 (W := 1) (argsL := [(.int x), (.int (1 : Int32))]) (rest := [(.ref q)]) (wd 21 rfl) (wd 1 rfl) (wd 2 rfl) (wd 3 rfl) (by decide) (con_max l Z a0 hw n0 h131 X131.size x (1 : Int32)) (by decide) (by decide) rfl (lenOf pd_1 rfl) (Nat.le_of_ble_eq_true rfl) rfl d2_31 (by decide) (by decide) (fun T141 h141 v141 X141 hQ141 => ?_)
  obtain ⟨rfl, hh141⟩ := hQ141
  rw [hh141] at X141
  rw [hcp]
  show Go p e below s n0 _ _ _ (T141.setTop (mkF m 34 #[.val (.ref q), .val (.int x)] [(.int cp.toInt32), (.ref q)]))
  refine Go.putF C X141 (wd 22 rfl) Fcapacity_135 E_132 (Or.inr ⟨(wd 23 rfl), rfl, rfl⟩) (wd 5 rfl) (ty := .int) (by decide) rfl rfl gq d2_34 (fun T142 h142 X142 W142 F142 => ?_)
  have Fbounds_143 : Fld Z h142 q "com/example/vitruvius/vitruvius/csv/CsvBatch" "bounds" "[I" (.ref b110) := (Fld.other W142 Fbounds_133 (Or.inr (slot_ne (Or.inl (C.w (wd 15 rfl))) (Or.inr (C.w (wd 23 rfl))) (by decide) (t := (.array .int)) (t' := .int) (by decide) (by decide))))
  have FfirstFields_144 : Fld Z h142 q "com/example/vitruvius/vitruvius/csv/CsvBatch" "firstFields" "[I" (.ref b118) := (Fld.other W142 FfirstFields_134 (Or.inr (slot_ne (Or.inl (C.w (wd 17 rfl))) (Or.inr (C.w (wd 23 rfl))) (by decide) (t := (.array .int)) (t' := .int) (by decide) (by decide))))
  have Fbytes_145 : Fld Z h142 q "com/example/vitruvius/vitruvius/csv/CsvBatch" "bytes" "[B" .null := (Fld.other W142 Fbytes_136 (Or.inr (slot_ne (Or.inl (C.w (wd 26 rfl))) (Or.inr (C.w (wd 23 rfl))) (by decide) (t := (.array .byte)) (t' := .int) (by decide) (by decide))))
  have Ffields_146 : Fld Z h142 q "com/example/vitruvius/vitruvius/csv/CsvBatch" "fields" "I" (.int (0 : Int32)) := (Fld.other W142 Ffields_137 (Or.inr (slot_ne (Or.inl (C.w (wd 49 rfl))) (Or.inr (C.w (wd 23 rfl))) (by decide) (t := .int) (t' := .int) (by decide) (by decide))))
  have Frecords_147 : Fld Z h142 q "com/example/vitruvius/vitruvius/csv/CsvBatch" "records" "I" (.int (0 : Int32)) := (Fld.other W142 Frecords_138 (Or.inr (slot_ne (Or.inl (C.w (wd 56 rfl))) (Or.inr (C.w (wd 23 rfl))) (by decide) (t := .int) (t' := .int) (by decide) (by decide))))
  have Flines_148 : Fld Z h142 q "com/example/vitruvius/vitruvius/csv/CsvBatch" "lines" "[J" (.ref b129) := (Fld.other W142 F131 (Or.inr (slot_ne (Or.inl (C.w (wd 20 rfl))) (Or.inr (C.w (wd 23 rfl))) (by decide) (t := (.array .long)) (t' := .int) (by decide) (by decide))))
  have A_b110_149 : AR Z h142 b110 .int (List.replicate ((64 : Int32)).toNatClampNeg (.int (0 : Int32))) := (A_b110_139.other W142 (Ne.symm ne_q_b110))
  have A_b118_150 : AR Z h142 b118 .int (List.replicate ((17 : Int32)).toNatClampNeg (.int (0 : Int32))) := (A_b118_140.other W142 (Ne.symm ne_q_b118))
  have A_b129_151 : AR Z h142 b129 .long [(.long (0 : Int64)), (.long (0 : Int64)), (.long (0 : Int64)), (.long (0 : Int64)), (.long (0 : Int64)), (.long (0 : Int64)), (.long (0 : Int64)), (.long (0 : Int64)), (.long (0 : Int64)), (.long (0 : Int64)), (.long (0 : Int64)), (.long (0 : Int64)), (.long (0 : Int64)), (.long (0 : Int64)), (.long (0 : Int64)), (.long (0 : Int64))] := ((A_b129.other W131 (Ne.symm ne_q_b129)).other W142 (Ne.symm ne_q_b129))
  show Go p e below s n0 _ _ _ (T142.setTop (mkF m 37 #[.val (.ref q), .val (.int x)] []))
  refine Go.st (fun _ => XS.aloadN X142.here C.hx rfl (hb C.hby d2_37) rfl rfl) ?_
  show Go p e below s n0 _ _ _ (T142.setTop (mkF m 38 #[.val (.ref q), .val (.int x)] [(.ref q)]))
  refine Go.st (fun _ => XS.aloadN X142.here C.hx rfl (hb C.hby d2_38) rfl rfl) ?_
  show Go p e below s n0 _ _ _ (T142.setTop (mkF m 39 #[.val (.ref q), .val (.int x)] [(.ref q), (.ref q)]))
  refine Go.getF C X142 (wd 22 rfl) F142 d2_39 (fun T152 X152 => ?_)
  show Go p e below s n0 _ _ _ (T152.setTop (mkF m 42 #[.val (.ref q), .val (.int x)] [(.int cp.toInt32), (.ref q)]))
  refine Go.newPE C X152 (aty := .byte) (cap := 48) (ad := "[B") (wd 24 rfl) (by decide) d2_42 (nn32 (by omega)) (by rw [cl32 (by omega)]; omega) (by decide) (by decide) (by decide) (fun T153 h153 b153 g153 ge153 X153 E153 A153 EX153 => ?_)
  have ne_q_b153 : q ≠ b153 := Nat.ne_of_lt (Nat.lt_of_lt_of_le ((Exa.wr W142 E_132)).lt (Nat.le_of_eq g153))
  have ne_b110_b153 : b110 ≠ b153 := Nat.ne_of_lt (Nat.lt_of_lt_of_le (A_b110_149).lt (Nat.le_of_eq g153))
  have ne_b118_b153 : b118 ≠ b153 := Nat.ne_of_lt (Nat.lt_of_lt_of_le (A_b118_150).lt (Nat.le_of_eq g153))
  have ne_b129_b153 : b129 ≠ b153 := Nat.ne_of_lt (Nat.lt_of_lt_of_le (A_b129_151).lt (Nat.le_of_eq g153))
  have A_b153 : AR Z h153 b153 .byte (Z0L cp) := (by have u := A153; rw [cl32 (by omega)] at u; exact u)
  show Go p e below s n0 _ _ _ (T153.setTop (mkF m 44 #[.val (.ref q), .val (.int x)] [(.ref b153), (.ref q)]))
  refine Go.putF C X153 (wd 25 rfl) (Fld.ext E153 Fbytes_145) (Exa.ext E153 (Exa.wr W142 E_132)) (Or.inl (wd 26 rfl)) (wd 5 rfl) (ty := (.array .byte)) (by decide) rfl rfl gq d2_44 (fun T154 h154 X154 W154 F154 => ?_)
  have E_155 : Exa Z h154 q "com/example/vitruvius/vitruvius/csv/CsvBatch" := (Exa.wr W154 (Exa.ext E153 (Exa.wr W142 E_132)))
  have Fbounds_156 : Fld Z h154 q "com/example/vitruvius/vitruvius/csv/CsvBatch" "bounds" "[I" (.ref b110) := (Fld.other W154 (Fld.ext E153 Fbounds_143) (Or.inr (slot_ne (Or.inl (C.w (wd 15 rfl))) (Or.inl (C.w (wd 26 rfl))) (by decide) (t := (.array .int)) (t' := (.array .byte)) (by decide) (by decide))))
  have FfirstFields_157 : Fld Z h154 q "com/example/vitruvius/vitruvius/csv/CsvBatch" "firstFields" "[I" (.ref b118) := (Fld.other W154 (Fld.ext E153 FfirstFields_144) (Or.inr (slot_ne (Or.inl (C.w (wd 17 rfl))) (Or.inl (C.w (wd 26 rfl))) (by decide) (t := (.array .int)) (t' := (.array .byte)) (by decide) (by decide))))
  have Fcapacity_158 : Fld Z h154 q "com/example/vitruvius/vitruvius/csv/CsvBatch" "capacity" "I" (.int cp.toInt32) := (Fld.other W154 (Fld.ext E153 F142) (Or.inr (slot_ne (Or.inr (C.w (wd 23 rfl))) (Or.inl (C.w (wd 26 rfl))) (by decide) (t := .int) (t' := (.array .byte)) (by decide) (by decide))))
  have Ffields_159 : Fld Z h154 q "com/example/vitruvius/vitruvius/csv/CsvBatch" "fields" "I" (.int (0 : Int32)) := (Fld.other W154 (Fld.ext E153 Ffields_146) (Or.inr (slot_ne (Or.inl (C.w (wd 49 rfl))) (Or.inl (C.w (wd 26 rfl))) (by decide) (t := .int) (t' := (.array .byte)) (by decide) (by decide))))
  have Frecords_160 : Fld Z h154 q "com/example/vitruvius/vitruvius/csv/CsvBatch" "records" "I" (.int (0 : Int32)) := (Fld.other W154 (Fld.ext E153 Frecords_147) (Or.inr (slot_ne (Or.inl (C.w (wd 56 rfl))) (Or.inl (C.w (wd 26 rfl))) (by decide) (t := .int) (t' := (.array .byte)) (by decide) (by decide))))
  have Flines_161 : Fld Z h154 q "com/example/vitruvius/vitruvius/csv/CsvBatch" "lines" "[J" (.ref b129) := (Fld.other W154 (Fld.ext E153 Flines_148) (Or.inr (slot_ne (Or.inl (C.w (wd 20 rfl))) (Or.inl (C.w (wd 26 rfl))) (by decide) (t := (.array .long)) (t' := (.array .byte)) (by decide) (by decide))))
  have A_b110_162 : AR Z h154 b110 .int (List.replicate ((64 : Int32)).toNatClampNeg (.int (0 : Int32))) := ((A_b110_149.ext E153).other W154 (Ne.symm ne_q_b110))
  have A_b118_163 : AR Z h154 b118 .int (List.replicate ((17 : Int32)).toNatClampNeg (.int (0 : Int32))) := ((A_b118_150.ext E153).other W154 (Ne.symm ne_q_b118))
  have A_b129_164 : AR Z h154 b129 .long [(.long (0 : Int64)), (.long (0 : Int64)), (.long (0 : Int64)), (.long (0 : Int64)), (.long (0 : Int64)), (.long (0 : Int64)), (.long (0 : Int64)), (.long (0 : Int64)), (.long (0 : Int64)), (.long (0 : Int64)), (.long (0 : Int64)), (.long (0 : Int64)), (.long (0 : Int64)), (.long (0 : Int64)), (.long (0 : Int64)), (.long (0 : Int64))] := ((A_b129_151.ext E153).other W154 (Ne.symm ne_q_b129))
  show Go p e below s n0 _ _ _ (T154.setTop (mkF m 47 #[.val (.ref q), .val (.int x)] []))
  exact Go.retV C X154 d2_47 ⟨rfl, b110, b118, b153, ⟨gq, ge110, ge118, ge153, ne_q_b110, ne_q_b118, ne_q_b153, ne_b110_b118, ne_b110_b153, ne_b118_b153⟩, ⟨E_155, Fbounds_156, FfirstFields_157, Fcapacity_158, F154, Ffields_159, Frecords_160, A_b110_162, A_b118_163, (A_b153.other W154 (Ne.symm ne_q_b153)), (Exa.wr W154 EX153), rfl, rfl, rfl, (fun u => absurd u (by decide))⟩⟩ (by decide) (by decide)
theorem d4_0 : decode prog_1_method_11_code 0 = .ok (.aload_n 0, 1) := by decide +kernel
theorem d4_1 : decode prog_1_method_11_code 1 = .ok (.aload_n 0, 1) := by decide +kernel
theorem d4_2 : decode prog_1_method_11_code 2 = .ok (.getfield 34, 3) := by decide +kernel
theorem d4_5 : decode prog_1_method_11_code 5 = .ok (.iload_n 1, 1) := by decide +kernel
theorem d4_6 : decode prog_1_method_11_code 6 = .ok (.invokestatic 72, 3) := by decide +kernel
theorem d4_9 : decode prog_1_method_11_code 9 = .ok (.putfield 34, 3) := by decide +kernel
theorem d4_12 : decode prog_1_method_11_code 12 = .ok (.return_, 1) := by decide +kernel
theorem pf_4 : plainFor (⟨"com/example/vitruvius/vitruvius/csv/CsvBatch", "grow", "(I)V"⟩ : MethodName) = true := plainFor_of_name (by first | (simp [plainName, overriddenIn]; done) | decide +kernel)
theorem pd_4 : parseMethodDescriptor "(I)V" = some ⟨[.int], none⟩ := by decide +kernel
set_option maxRecDepth 65536 in
set_option maxHeartbeats 40000000 in
theorem con_grow (l : Launch) (Z : State) (a0 : Array Value) (hw : ∀ d ∈ tables_1, d.before a0 Z = true) (n0 : Nat) (h0 : Heap) (Z0 : n0 ≤ h0.size) (q a1 a2 a4 : Addr) (cp n k : Nat) (kz nf nr : Int32) (B F : List Value) (hkz : kz = k.toInt32) (hk : k < 64) (hn : n < 64) (hD : DC n0 q a1 a2 a4) (hq : CB Z h0 q a1 a2 a4 cp n nf nr B F) :
    Con l Z (⟨"com/example/vitruvius/vitruvius/csv/CsvBatch", "grow", "(I)V"⟩ : MethodName) prog_1_method_11_code 2 none [] ({ frames := 2, cells := 1, slots := 64, locals := 55 } : Room) n0 #[(.ref q), (.int kz)] h0 (fun v h => v = none ∧ ∃ a4', DC n0 q a1 a2 a4' ∧ CB Z h q a1 a2 a4' cp k nf nr B F) := by
  refine Con.mk pf_4 hw Z0 ?_
  intro p e s m below meth c T0 C X0
  have ef : entryFrame m #[(.ref q), (.int kz)] 2 = mkF m 0 #[.val (.ref q), .val (.int kz)] [] := by first | (simp [entryFrame, mkF, argsToLocals, Value.category]; done) | rfl
  rw [ef]
  obtain ⟨E, Fbounds, FfirstFields, Fcapacity, Fbytes, Ffields, Frecords, Aa1, Aa2, Aa4, E4, lB, lF, f0, f1⟩ := hq
  obtain ⟨gq, g1, g2, g4, nq1, nq2, nq4, n12, n14, n24⟩ := hD
  show Go p e below s n0 _ _ _ (T0.setTop (mkF m 0 #[.val (.ref q), .val (.int kz)] []))
  refine Go.st (fun _ => XS.aloadN X0.here C.hx rfl (hb C.hby d4_0) rfl rfl) ?_
  show Go p e below s n0 _ _ _ (T0.setTop (mkF m 1 #[.val (.ref q), .val (.int kz)] [(.ref q)]))
  refine Go.st (fun _ => XS.aloadN X0.here C.hx rfl (hb C.hby d4_1) rfl rfl) ?_
  show Go p e below s n0 _ _ _ (T0.setTop (mkF m 2 #[.val (.ref q), .val (.int kz)] [(.ref q), (.ref q)]))
  refine Go.getF C X0 (wd 25 rfl) Fbytes d4_2 (fun T165 X165 => ?_)
  show Go p e below s n0 _ _ _ (T165.setTop (mkF m 5 #[.val (.ref q), .val (.int kz)] [(.ref a4), (.ref q)]))
  refine Go.st (fun _ => XS.iloadN X165.here C.hx rfl (hb C.hby d4_5) rfl) ?_
  show Go p e below s n0 _ _ _ (T165.setTop (mkF m 6 #[.val (.ref q), .val (.int kz)] [(.int kz), (.ref a4), (.ref q)]))
  refine Go.callS C X165 (W := 1) (argsL := [(.ref a4), (.int kz)]) (rest := [(.ref q)]) (wd 32 rfl) (wd 33 rfl) (wd 34 rfl) (wd 35 rfl) (by decide) (con_copy l Z a0 hw n0 h0 X165.size a4 n k kz Aa4 E4 hn hk hkz) (by decide) (by decide) rfl (lenOf pd_5 rfl) (Nat.le_of_ble_eq_true rfl) rfl d4_6 (by decide) (by decide) (fun T166 h166 v166 X166 hQ166 => ?_)
  obtain ⟨b166, rfl, A166, E166, K166, ob166⟩ := hQ166
  have gb166 : n0 ≤ b166 := Nat.le_trans Z0 ob166
  have ne166_q : q ≠ b166 := Nat.ne_of_lt (Nat.lt_of_lt_of_le E.lt ob166)
  have ne166_a1 : a1 ≠ b166 := Nat.ne_of_lt (Nat.lt_of_lt_of_le Aa1.lt ob166)
  have ne166_a2 : a2 ≠ b166 := Nat.ne_of_lt (Nat.lt_of_lt_of_le Aa2.lt ob166)
  have ne166_a4 : a4 ≠ b166 := Nat.ne_of_lt (Nat.lt_of_lt_of_le Aa4.lt ob166)
  show Go p e below s n0 _ _ _ (T166.setTop (mkF m 9 #[.val (.ref q), .val (.int kz)] [(.ref b166), (.ref q)]))
  refine Go.putF C X166 (wd 25 rfl) (Fbytes.keep K166 nin0) (E.keep K166) (Or.inl (wd 26 rfl)) (wd 5 rfl) (ty := (.array .byte)) (by decide) rfl rfl gq d4_9 (fun T167 h167 X167 W167 F167 => ?_)
  have Fbounds_168 : Fld Z h167 q "com/example/vitruvius/vitruvius/csv/CsvBatch" "bounds" "[I" (.ref a1) := (Fld.other W167 (Fbounds.keep K166 nin0) (Or.inr (slot_ne (Or.inl (C.w (wd 15 rfl))) (Or.inl (C.w (wd 26 rfl))) (by decide) (t := (.array .int)) (t' := (.array .byte)) (by decide) (by decide))))
  have FfirstFields_169 : Fld Z h167 q "com/example/vitruvius/vitruvius/csv/CsvBatch" "firstFields" "[I" (.ref a2) := (Fld.other W167 (FfirstFields.keep K166 nin0) (Or.inr (slot_ne (Or.inl (C.w (wd 17 rfl))) (Or.inl (C.w (wd 26 rfl))) (by decide) (t := (.array .int)) (t' := (.array .byte)) (by decide) (by decide))))
  have Fcapacity_170 : Fld Z h167 q "com/example/vitruvius/vitruvius/csv/CsvBatch" "capacity" "I" (.int cp.toInt32) := (Fld.other W167 (Fcapacity.keep K166 nin0) (Or.inr (slot_ne (Or.inr (C.w (wd 23 rfl))) (Or.inl (C.w (wd 26 rfl))) (by decide) (t := .int) (t' := (.array .byte)) (by decide) (by decide))))
  have Ffields_171 : Fld Z h167 q "com/example/vitruvius/vitruvius/csv/CsvBatch" "fields" "I" (.int nf) := (Fld.other W167 (Ffields.keep K166 nin0) (Or.inr (slot_ne (Or.inl (C.w (wd 49 rfl))) (Or.inl (C.w (wd 26 rfl))) (by decide) (t := .int) (t' := (.array .byte)) (by decide) (by decide))))
  have Frecords_172 : Fld Z h167 q "com/example/vitruvius/vitruvius/csv/CsvBatch" "records" "I" (.int nr) := (Fld.other W167 (Frecords.keep K166 nin0) (Or.inr (slot_ne (Or.inl (C.w (wd 56 rfl))) (Or.inl (C.w (wd 26 rfl))) (by decide) (t := .int) (t' := (.array .byte)) (by decide) (by decide))))
  have Aa1_173 : AR Z h167 a1 .int B := ((Aa1.keep K166 nin0).other W167 (Ne.symm nq1))
  have Aa2_174 : AR Z h167 a2 .int F := ((Aa2.keep K166 nin0).other W167 (Ne.symm nq2))
  have Aa4_175 : AR Z h167 a4 .byte (Z0L n) := ((Aa4.keep K166 nin0).other W167 (Ne.symm nq4))
  show Go p e below s n0 _ _ _ (T167.setTop (mkF m 12 #[.val (.ref q), .val (.int kz)] []))
  exact Go.retV C X167 d4_12 ⟨rfl, b166, ⟨gq, g1, g2, gb166, nq1, nq2, ne166_q, n12, ne166_a1, ne166_a2⟩, ⟨(Exa.wr W167 (E.keep K166)), Fbounds_168, FfirstFields_169, Fcapacity_170, F167, Ffields_171, Frecords_172, Aa1_173, Aa2_174, (A166.other W167 (Ne.symm ne166_q)), (Exa.wr W167 E166), lB, lF, f0, f1⟩⟩ (by decide) (by decide)
theorem d7_0 : decode prog_1_method_14_code 0 = .ok (.iconst 2, 1) := by decide +kernel
theorem d7_1 : decode prog_1_method_14_code 1 = .ok (.aload_n 0, 1) := by decide +kernel
theorem d7_2 : decode prog_1_method_14_code 2 = .ok (.getfield 77, 3) := by decide +kernel
theorem d7_5 : decode prog_1_method_14_code 5 = .ok (.imul, 1) := by decide +kernel
theorem d7_6 : decode prog_1_method_14_code 6 = .ok (.iconst 2, 1) := by decide +kernel
theorem d7_7 : decode prog_1_method_14_code 7 = .ok (.iadd, 1) := by decide +kernel
theorem d7_8 : decode prog_1_method_14_code 8 = .ok (.aload_n 0, 1) := by decide +kernel
theorem d7_9 : decode prog_1_method_14_code 9 = .ok (.getfield 13, 3) := by decide +kernel
theorem d7_12 : decode prog_1_method_14_code 12 = .ok (.arraylength, 1) := by decide +kernel
theorem d7_13 : decode prog_1_method_14_code 13 = .ok (.if_icmp .le 21, 3) := by decide +kernel
theorem d7_16 : decode prog_1_method_14_code 16 = .ok (.aload_n 0, 1) := by decide +kernel
theorem d7_17 : decode prog_1_method_14_code 17 = .ok (.aload_n 0, 1) := by decide +kernel
theorem d7_18 : decode prog_1_method_14_code 18 = .ok (.getfield 13, 3) := by decide +kernel
theorem d7_21 : decode prog_1_method_14_code 21 = .ok (.iconst 2, 1) := by decide +kernel
theorem d7_22 : decode prog_1_method_14_code 22 = .ok (.aload_n 0, 1) := by decide +kernel
theorem d7_23 : decode prog_1_method_14_code 23 = .ok (.getfield 13, 3) := by decide +kernel
theorem d7_26 : decode prog_1_method_14_code 26 = .ok (.arraylength, 1) := by decide +kernel
theorem d7_27 : decode prog_1_method_14_code 27 = .ok (.imul, 1) := by decide +kernel
theorem d7_28 : decode prog_1_method_14_code 28 = .ok (.invokestatic 82, 3) := by decide +kernel
theorem d7_31 : decode prog_1_method_14_code 31 = .ok (.putfield 13, 3) := by decide +kernel
theorem d7_34 : decode prog_1_method_14_code 34 = .ok (.aload_n 0, 1) := by decide +kernel
theorem d7_35 : decode prog_1_method_14_code 35 = .ok (.getfield 13, 3) := by decide +kernel
theorem d7_38 : decode prog_1_method_14_code 38 = .ok (.iconst 2, 1) := by decide +kernel
theorem d7_39 : decode prog_1_method_14_code 39 = .ok (.aload_n 0, 1) := by decide +kernel
theorem d7_40 : decode prog_1_method_14_code 40 = .ok (.getfield 77, 3) := by decide +kernel
theorem d7_43 : decode prog_1_method_14_code 43 = .ok (.imul, 1) := by decide +kernel
theorem d7_44 : decode prog_1_method_14_code 44 = .ok (.iload_n 1, 1) := by decide +kernel
theorem d7_45 : decode prog_1_method_14_code 45 = .ok (.iastore, 1) := by decide +kernel
theorem d7_46 : decode prog_1_method_14_code 46 = .ok (.aload_n 0, 1) := by decide +kernel
theorem d7_47 : decode prog_1_method_14_code 47 = .ok (.getfield 13, 3) := by decide +kernel
theorem d7_50 : decode prog_1_method_14_code 50 = .ok (.iconst 2, 1) := by decide +kernel
theorem d7_51 : decode prog_1_method_14_code 51 = .ok (.aload_n 0, 1) := by decide +kernel
theorem d7_52 : decode prog_1_method_14_code 52 = .ok (.getfield 77, 3) := by decide +kernel
theorem d7_55 : decode prog_1_method_14_code 55 = .ok (.imul, 1) := by decide +kernel
theorem d7_56 : decode prog_1_method_14_code 56 = .ok (.iconst 1, 1) := by decide +kernel
theorem d7_57 : decode prog_1_method_14_code 57 = .ok (.iadd, 1) := by decide +kernel
theorem d7_58 : decode prog_1_method_14_code 58 = .ok (.iload_n 2, 1) := by decide +kernel
theorem d7_59 : decode prog_1_method_14_code 59 = .ok (.iastore, 1) := by decide +kernel
theorem d7_60 : decode prog_1_method_14_code 60 = .ok (.aload_n 0, 1) := by decide +kernel
theorem d7_61 : decode prog_1_method_14_code 61 = .ok (.dup, 1) := by decide +kernel
theorem d7_62 : decode prog_1_method_14_code 62 = .ok (.getfield 77, 3) := by decide +kernel
theorem d7_65 : decode prog_1_method_14_code 65 = .ok (.iconst 1, 1) := by decide +kernel
theorem d7_66 : decode prog_1_method_14_code 66 = .ok (.iadd, 1) := by decide +kernel
theorem d7_67 : decode prog_1_method_14_code 67 = .ok (.putfield 77, 3) := by decide +kernel
theorem d7_70 : decode prog_1_method_14_code 70 = .ok (.return_, 1) := by decide +kernel
theorem pf_7 : plainFor (⟨"com/example/vitruvius/vitruvius/csv/CsvBatch", "addField", "(II)V"⟩ : MethodName) = true := plainFor_of_name (by first | (simp [plainName, overriddenIn]; done) | decide +kernel)
theorem pd_7 : parseMethodDescriptor "(II)V" = some ⟨[.int, .int], none⟩ := by decide +kernel
set_option maxRecDepth 65536 in
set_option maxHeartbeats 40000000 in
theorem con_add (l : Launch) (Z : State) (a0 : Array Value) (hw : ∀ d ∈ tables_1, d.before a0 Z = true) (n0 : Nat) (h0 : Heap) (Z0 : n0 ≤ h0.size) (q a1 a2 a4 : Addr) (cp n : Nat) (x y nr : Int32) (B F : List Value) (hD : DC n0 q a1 a2 a4) (hq : CB Z h0 q a1 a2 a4 cp n 0 nr B F) :
    Con l Z (⟨"com/example/vitruvius/vitruvius/csv/CsvBatch", "addField", "(II)V"⟩ : MethodName) prog_1_method_14_code 3 none [] ({ frames := 0, cells := 0, slots := 0, locals := 0 } : Room) n0 #[(.ref q), (.int x), (.int y)] h0 (fun v h => v = none ∧ ∃ B', CB Z h q a1 a2 a4 cp n 1 nr B' F) := by
  refine Con.mk pf_7 hw Z0 ?_
  intro p e s m below meth c T0 C X0
  have ef : entryFrame m #[(.ref q), (.int x), (.int y)] 3 = mkF m 0 #[.val (.ref q), .val (.int x), .val (.int y)] [] := by first | (simp [entryFrame, mkF, argsToLocals, Value.category]; done) | rfl
  rw [ef]
  obtain ⟨E, Fbounds, FfirstFields, Fcapacity, Fbytes, Ffields, Frecords, Aa1, Aa2, Aa4, E4, lB, lF, f0, f1⟩ := hq
  obtain ⟨gq, g1, g2, g4, nq1, nq2, nq4, n12, n14, n24⟩ := hD
  show Go p e below s n0 _ _ _ (T0.setTop (mkF m 0 #[.val (.ref q), .val (.int x), .val (.int y)] []))
  refine Go.st (fun _ => XS.iconst X0.here C.hx rfl (hb C.hby d7_0)) ?_
  show Go p e below s n0 _ _ _ (T0.setTop (mkF m 1 #[.val (.ref q), .val (.int x), .val (.int y)] [(.int (2 : Int32))]))
  refine Go.st (fun _ => XS.aloadN X0.here C.hx rfl (hb C.hby d7_1) rfl rfl) ?_
  show Go p e below s n0 _ _ _ (T0.setTop (mkF m 2 #[.val (.ref q), .val (.int x), .val (.int y)] [(.ref q), (.int (2 : Int32))]))
  refine Go.getF C X0 (wd 48 rfl) Ffields d7_2 (fun T176 X176 => ?_)
  show Go p e below s n0 _ _ _ (T176.setTop (mkF m 5 #[.val (.ref q), .val (.int x), .val (.int y)] [(.int (0 : Int32)), (.int (2 : Int32))]))
  refine Go.st (fun _ => XS.imul X176.here C.hx rfl (hb C.hby d7_5) rfl) ?_
  show Go p e below s n0 _ _ _ (T176.setTop (mkF m 6 #[.val (.ref q), .val (.int x), .val (.int y)] [(.int (0 : Int32))]))
  refine Go.st (fun _ => XS.iconst X176.here C.hx rfl (hb C.hby d7_6)) ?_
  show Go p e below s n0 _ _ _ (T176.setTop (mkF m 7 #[.val (.ref q), .val (.int x), .val (.int y)] [(.int (2 : Int32)), (.int (0 : Int32))]))
  refine Go.st (fun _ => XS.iadd X176.here C.hx rfl (hb C.hby d7_7) rfl) ?_
  show Go p e below s n0 _ _ _ (T176.setTop (mkF m 8 #[.val (.ref q), .val (.int x), .val (.int y)] [(.int (2 : Int32))]))
  refine Go.st (fun _ => XS.aloadN X176.here C.hx rfl (hb C.hby d7_8) rfl rfl) ?_
  show Go p e below s n0 _ _ _ (T176.setTop (mkF m 9 #[.val (.ref q), .val (.int x), .val (.int y)] [(.ref q), (.int (2 : Int32))]))
  refine Go.getF C X176 (wd 14 rfl) Fbounds d7_9 (fun T177 X177 => ?_)
  show Go p e below s n0 _ _ _ (T177.setTop (mkF m 12 #[.val (.ref q), .val (.int x), .val (.int y)] [(.ref a1), (.int (2 : Int32))]))
  refine Go.alen C X177 Aa1 (z := (64 : Int32)) (by rw [lB]; rfl) d7_12 ?_
  show Go p e below s n0 _ _ _ (T177.setTop (mkF m 13 #[.val (.ref q), .val (.int x), .val (.int y)] [(.int (64 : Int32)), (.int (2 : Int32))]))
  refine Go.icmp_le C X177 (pc' := 34) d7_13 (by decide) (by decide) (fun _ => ?_) (fun hc => absurd hc (by decide))
  show Go p e below s n0 _ _ _ (T177.setTop (mkF m 34 #[.val (.ref q), .val (.int x), .val (.int y)] []))
  refine Go.st (fun _ => XS.aloadN X177.here C.hx rfl (hb C.hby d7_34) rfl rfl) ?_
  show Go p e below s n0 _ _ _ (T177.setTop (mkF m 35 #[.val (.ref q), .val (.int x), .val (.int y)] [(.ref q)]))
  refine Go.getF C X177 (wd 14 rfl) Fbounds d7_35 (fun T179 X179 => ?_)
  show Go p e below s n0 _ _ _ (T179.setTop (mkF m 38 #[.val (.ref q), .val (.int x), .val (.int y)] [(.ref a1)]))
  refine Go.st (fun _ => XS.iconst X179.here C.hx rfl (hb C.hby d7_38)) ?_
  show Go p e below s n0 _ _ _ (T179.setTop (mkF m 39 #[.val (.ref q), .val (.int x), .val (.int y)] [(.int (2 : Int32)), (.ref a1)]))
  refine Go.st (fun _ => XS.aloadN X179.here C.hx rfl (hb C.hby d7_39) rfl rfl) ?_
  show Go p e below s n0 _ _ _ (T179.setTop (mkF m 40 #[.val (.ref q), .val (.int x), .val (.int y)] [(.ref q), (.int (2 : Int32)), (.ref a1)]))
  refine Go.getF C X179 (wd 48 rfl) Ffields d7_40 (fun T180 X180 => ?_)
  show Go p e below s n0 _ _ _ (T180.setTop (mkF m 43 #[.val (.ref q), .val (.int x), .val (.int y)] [(.int (0 : Int32)), (.int (2 : Int32)), (.ref a1)]))
  refine Go.st (fun _ => XS.imul X180.here C.hx rfl (hb C.hby d7_43) rfl) ?_
  show Go p e below s n0 _ _ _ (T180.setTop (mkF m 44 #[.val (.ref q), .val (.int x), .val (.int y)] [(.int (0 : Int32)), (.ref a1)]))
  refine Go.st (fun _ => XS.iloadN X180.here C.hx rfl (hb C.hby d7_44) rfl) ?_
  show Go p e below s n0 _ _ _ (T180.setTop (mkF m 45 #[.val (.ref q), .val (.int x), .val (.int y)] [(.int x), (.int (0 : Int32)), (.ref a1)]))
  refine Go.iastore C X180 Aa1 (by decide) (by first | (rw [lB]; decide) | (rw [List.length_set, lB]; decide)) g1 d7_45 (fun T181 h181 X181 W181 A181 => ?_)
  have FfirstFields_182 : Fld Z h181 q "com/example/vitruvius/vitruvius/csv/CsvBatch" "firstFields" "[I" (.ref a2) := (Fld.other W181 FfirstFields (Or.inl nq1))
  show Go p e below s n0 _ _ _ (T181.setTop (mkF m 46 #[.val (.ref q), .val (.int x), .val (.int y)] []))
  refine Go.st (fun _ => XS.aloadN X181.here C.hx rfl (hb C.hby d7_46) rfl rfl) ?_
  show Go p e below s n0 _ _ _ (T181.setTop (mkF m 47 #[.val (.ref q), .val (.int x), .val (.int y)] [(.ref q)]))
  refine Go.getF C X181 (wd 14 rfl) (Fld.other W181 Fbounds (Or.inl nq1)) d7_47 (fun T183 X183 => ?_)
  show Go p e below s n0 _ _ _ (T183.setTop (mkF m 50 #[.val (.ref q), .val (.int x), .val (.int y)] [(.ref a1)]))
  refine Go.st (fun _ => XS.iconst X183.here C.hx rfl (hb C.hby d7_50)) ?_
  show Go p e below s n0 _ _ _ (T183.setTop (mkF m 51 #[.val (.ref q), .val (.int x), .val (.int y)] [(.int (2 : Int32)), (.ref a1)]))
  refine Go.st (fun _ => XS.aloadN X183.here C.hx rfl (hb C.hby d7_51) rfl rfl) ?_
  show Go p e below s n0 _ _ _ (T183.setTop (mkF m 52 #[.val (.ref q), .val (.int x), .val (.int y)] [(.ref q), (.int (2 : Int32)), (.ref a1)]))
  refine Go.getF C X183 (wd 48 rfl) (Fld.other W181 Ffields (Or.inl nq1)) d7_52 (fun T184 X184 => ?_)
  show Go p e below s n0 _ _ _ (T184.setTop (mkF m 55 #[.val (.ref q), .val (.int x), .val (.int y)] [(.int (0 : Int32)), (.int (2 : Int32)), (.ref a1)]))
  refine Go.st (fun _ => XS.imul X184.here C.hx rfl (hb C.hby d7_55) rfl) ?_
  show Go p e below s n0 _ _ _ (T184.setTop (mkF m 56 #[.val (.ref q), .val (.int x), .val (.int y)] [(.int (0 : Int32)), (.ref a1)]))
  refine Go.st (fun _ => XS.iconst X184.here C.hx rfl (hb C.hby d7_56)) ?_
  show Go p e below s n0 _ _ _ (T184.setTop (mkF m 57 #[.val (.ref q), .val (.int x), .val (.int y)] [(.int (1 : Int32)), (.int (0 : Int32)), (.ref a1)]))
  refine Go.st (fun _ => XS.iadd X184.here C.hx rfl (hb C.hby d7_57) rfl) ?_
  show Go p e below s n0 _ _ _ (T184.setTop (mkF m 58 #[.val (.ref q), .val (.int x), .val (.int y)] [(.int (1 : Int32)), (.ref a1)]))
  refine Go.st (fun _ => XS.iloadN X184.here C.hx rfl (hb C.hby d7_58) rfl) ?_
  show Go p e below s n0 _ _ _ (T184.setTop (mkF m 59 #[.val (.ref q), .val (.int x), .val (.int y)] [(.int y), (.int (1 : Int32)), (.ref a1)]))
  refine Go.iastore C X184 A181 (by decide) (by first | (rw [lB]; decide) | (rw [List.length_set, lB]; decide)) g1 d7_59 (fun T185 h185 X185 W185 A185 => ?_)
  have Fbounds_186 : Fld Z h185 q "com/example/vitruvius/vitruvius/csv/CsvBatch" "bounds" "[I" (.ref a1) := (Fld.other W185 (Fld.other W181 Fbounds (Or.inl nq1)) (Or.inl nq1))
  have FfirstFields_187 : Fld Z h185 q "com/example/vitruvius/vitruvius/csv/CsvBatch" "firstFields" "[I" (.ref a2) := (Fld.other W185 FfirstFields_182 (Or.inl nq1))
  have Fcapacity_188 : Fld Z h185 q "com/example/vitruvius/vitruvius/csv/CsvBatch" "capacity" "I" (.int cp.toInt32) := (Fld.other W185 (Fld.other W181 Fcapacity (Or.inl nq1)) (Or.inl nq1))
  have Fbytes_189 : Fld Z h185 q "com/example/vitruvius/vitruvius/csv/CsvBatch" "bytes" "[B" (.ref a4) := (Fld.other W185 (Fld.other W181 Fbytes (Or.inl nq1)) (Or.inl nq1))
  have Ffields_190 : Fld Z h185 q "com/example/vitruvius/vitruvius/csv/CsvBatch" "fields" "I" (.int (0 : Int32)) := (Fld.other W185 (Fld.other W181 Ffields (Or.inl nq1)) (Or.inl nq1))
  have Frecords_191 : Fld Z h185 q "com/example/vitruvius/vitruvius/csv/CsvBatch" "records" "I" (.int nr) := (Fld.other W185 (Fld.other W181 Frecords (Or.inl nq1)) (Or.inl nq1))
  have Aa2_192 : AR Z h185 a2 .int F := ((Aa2.other W181 (Ne.symm n12)).other W185 (Ne.symm n12))
  have Aa4_193 : AR Z h185 a4 .byte (Z0L n) := ((Aa4.other W181 (Ne.symm n14)).other W185 (Ne.symm n14))
  show Go p e below s n0 _ _ _ (T185.setTop (mkF m 60 #[.val (.ref q), .val (.int x), .val (.int y)] []))
  refine Go.st (fun _ => XS.aloadN X185.here C.hx rfl (hb C.hby d7_60) rfl rfl) ?_
  show Go p e below s n0 _ _ _ (T185.setTop (mkF m 61 #[.val (.ref q), .val (.int x), .val (.int y)] [(.ref q)]))
  refine Go.st (fun _ => XS.dup X185.here C.hx rfl (hb C.hby d7_61) rfl rfl) ?_
  show Go p e below s n0 _ _ _ (T185.setTop (mkF m 62 #[.val (.ref q), .val (.int x), .val (.int y)] [(.ref q), (.ref q)]))
  refine Go.getF C X185 (wd 48 rfl) Ffields_190 d7_62 (fun T194 X194 => ?_)
  show Go p e below s n0 _ _ _ (T194.setTop (mkF m 65 #[.val (.ref q), .val (.int x), .val (.int y)] [(.int (0 : Int32)), (.ref q)]))
  refine Go.st (fun _ => XS.iconst X194.here C.hx rfl (hb C.hby d7_65)) ?_
  show Go p e below s n0 _ _ _ (T194.setTop (mkF m 66 #[.val (.ref q), .val (.int x), .val (.int y)] [(.int (1 : Int32)), (.int (0 : Int32)), (.ref q)]))
  refine Go.st (fun _ => XS.iadd X194.here C.hx rfl (hb C.hby d7_66) rfl) ?_
  show Go p e below s n0 _ _ _ (T194.setTop (mkF m 67 #[.val (.ref q), .val (.int x), .val (.int y)] [(.int (1 : Int32)), (.ref q)]))
  refine Go.putF C X194 (wd 48 rfl) Ffields_190 (Exa.wr W185 (Exa.wr W181 E)) (Or.inl (wd 49 rfl)) (wd 5 rfl) (ty := .int) (by decide) rfl rfl gq d7_67 (fun T195 h195 X195 W195 F195 => ?_)
  have E_196 : Exa Z h195 q "com/example/vitruvius/vitruvius/csv/CsvBatch" := (Exa.wr W195 (Exa.wr W185 (Exa.wr W181 E)))
  have Fbounds_197 : Fld Z h195 q "com/example/vitruvius/vitruvius/csv/CsvBatch" "bounds" "[I" (.ref a1) := (Fld.other W195 Fbounds_186 (Or.inr (slot_ne (Or.inl (C.w (wd 15 rfl))) (Or.inl (C.w (wd 49 rfl))) (by decide) (t := (.array .int)) (t' := .int) (by decide) (by decide))))
  have FfirstFields_198 : Fld Z h195 q "com/example/vitruvius/vitruvius/csv/CsvBatch" "firstFields" "[I" (.ref a2) := (Fld.other W195 FfirstFields_187 (Or.inr (slot_ne (Or.inl (C.w (wd 17 rfl))) (Or.inl (C.w (wd 49 rfl))) (by decide) (t := (.array .int)) (t' := .int) (by decide) (by decide))))
  have Fcapacity_199 : Fld Z h195 q "com/example/vitruvius/vitruvius/csv/CsvBatch" "capacity" "I" (.int cp.toInt32) := (Fld.other W195 Fcapacity_188 (Or.inr (slot_ne (Or.inr (C.w (wd 23 rfl))) (Or.inl (C.w (wd 49 rfl))) (by decide) (t := .int) (t' := .int) (by decide) (by decide))))
  have Fbytes_200 : Fld Z h195 q "com/example/vitruvius/vitruvius/csv/CsvBatch" "bytes" "[B" (.ref a4) := (Fld.other W195 Fbytes_189 (Or.inr (slot_ne (Or.inl (C.w (wd 26 rfl))) (Or.inl (C.w (wd 49 rfl))) (by decide) (t := (.array .byte)) (t' := .int) (by decide) (by decide))))
  have Frecords_201 : Fld Z h195 q "com/example/vitruvius/vitruvius/csv/CsvBatch" "records" "I" (.int nr) := (Fld.other W195 Frecords_191 (Or.inr (slot_ne (Or.inl (C.w (wd 56 rfl))) (Or.inl (C.w (wd 49 rfl))) (by decide) (t := .int) (t' := .int) (by decide) (by decide))))
  have E4_202 : Exa Z h195 a4 "[B" := (Exa.wr W195 (Exa.wr W185 (Exa.wr W181 E4)))
  show Go p e below s n0 _ _ _ (T195.setTop (mkF m 70 #[.val (.ref q), .val (.int x), .val (.int y)] []))
  exact Go.retV C X195 d7_70 ⟨rfl, _, ⟨E_196, Fbounds_197, FfirstFields_198, Fcapacity_199, Fbytes_200, F195, Frecords_201, (A185.other W195 (Ne.symm nq1)), (Aa2_192.other W195 (Ne.symm nq2)), (Aa4_193.other W195 (Ne.symm nq4)), E4_202, (by rw [List.length_set, List.length_set]; exact lB), lF, f0, f1⟩⟩ (by decide) (by decide)
theorem d8_0 : decode prog_1_method_16_code 0 = .ok (.aload_n 0, 1) := by decide +kernel
theorem d8_1 : decode prog_1_method_16_code 1 = .ok (.dup, 1) := by decide +kernel
theorem d8_2 : decode prog_1_method_16_code 2 = .ok (.getfield 38, 3) := by decide +kernel
theorem d8_5 : decode prog_1_method_16_code 5 = .ok (.iconst 1, 1) := by decide +kernel
theorem d8_6 : decode prog_1_method_16_code 6 = .ok (.iadd, 1) := by decide +kernel
theorem d8_7 : decode prog_1_method_16_code 7 = .ok (.putfield 38, 3) := by decide +kernel
theorem d8_10 : decode prog_1_method_16_code 10 = .ok (.aload_n 0, 1) := by decide +kernel
theorem d8_11 : decode prog_1_method_16_code 11 = .ok (.getfield 17, 3) := by decide +kernel
theorem d8_14 : decode prog_1_method_16_code 14 = .ok (.aload_n 0, 1) := by decide +kernel
theorem d8_15 : decode prog_1_method_16_code 15 = .ok (.getfield 38, 3) := by decide +kernel
theorem d8_18 : decode prog_1_method_16_code 18 = .ok (.aload_n 0, 1) := by decide +kernel
theorem d8_19 : decode prog_1_method_16_code 19 = .ok (.getfield 77, 3) := by decide +kernel
theorem d8_22 : decode prog_1_method_16_code 22 = .ok (.iastore, 1) := by decide +kernel
theorem d8_23 : decode prog_1_method_16_code 23 = .ok (.return_, 1) := by decide +kernel
theorem pf_8 : plainFor (⟨"com/example/vitruvius/vitruvius/csv/CsvBatch", "endRecord", "()V"⟩ : MethodName) = true := plainFor_of_name (by first | (simp [plainName, overriddenIn]; done) | decide +kernel)
theorem pd_8 : parseMethodDescriptor "()V" = some ⟨[], none⟩ := by decide +kernel
set_option maxRecDepth 65536 in
set_option maxHeartbeats 40000000 in
theorem con_end (l : Launch) (Z : State) (a0 : Array Value) (hw : ∀ d ∈ tables_1, d.before a0 Z = true) (n0 : Nat) (h0 : Heap) (Z0 : n0 ≤ h0.size) (q a1 a2 a4 : Addr) (cp n : Nat) (B F : List Value) (hD : DC n0 q a1 a2 a4) (hq : CB Z h0 q a1 a2 a4 cp n 1 0 B F) :
    Con l Z (⟨"com/example/vitruvius/vitruvius/csv/CsvBatch", "endRecord", "()V"⟩ : MethodName) prog_1_method_16_code 1 none [] ({ frames := 0, cells := 0, slots := 0, locals := 0 } : Room) n0 #[(.ref q)] h0 (fun v h => v = none ∧ ∃ F', CB Z h q a1 a2 a4 cp n 1 1 B F') := by
  refine Con.mk pf_8 hw Z0 ?_
  intro p e s m below meth c T0 C X0
  have ef : entryFrame m #[(.ref q)] 1 = mkF m 0 #[.val (.ref q)] [] := by first | (simp [entryFrame, mkF, argsToLocals, Value.category]; done) | rfl
  rw [ef]
  obtain ⟨E, Fbounds, FfirstFields, Fcapacity, Fbytes, Ffields, Frecords, Aa1, Aa2, Aa4, E4, lB, lF, f0, f1⟩ := hq
  obtain ⟨gq, g1, g2, g4, nq1, nq2, nq4, n12, n14, n24⟩ := hD
  show Go p e below s n0 _ _ _ (T0.setTop (mkF m 0 #[.val (.ref q)] []))
  refine Go.st (fun _ => XS.aloadN X0.here C.hx rfl (hb C.hby d8_0) rfl rfl) ?_
  show Go p e below s n0 _ _ _ (T0.setTop (mkF m 1 #[.val (.ref q)] [(.ref q)]))
  refine Go.st (fun _ => XS.dup X0.here C.hx rfl (hb C.hby d8_1) rfl rfl) ?_
  show Go p e below s n0 _ _ _ (T0.setTop (mkF m 2 #[.val (.ref q)] [(.ref q), (.ref q)]))
  refine Go.getF C X0 (wd 55 rfl) Frecords d8_2 (fun T203 X203 => ?_)
  show Go p e below s n0 _ _ _ (T203.setTop (mkF m 5 #[.val (.ref q)] [(.int (0 : Int32)), (.ref q)]))
  refine Go.st (fun _ => XS.iconst X203.here C.hx rfl (hb C.hby d8_5)) ?_
  show Go p e below s n0 _ _ _ (T203.setTop (mkF m 6 #[.val (.ref q)] [(.int (1 : Int32)), (.int (0 : Int32)), (.ref q)]))
  refine Go.st (fun _ => XS.iadd X203.here C.hx rfl (hb C.hby d8_6) rfl) ?_
  show Go p e below s n0 _ _ _ (T203.setTop (mkF m 7 #[.val (.ref q)] [(.int (1 : Int32)), (.ref q)]))
  refine Go.putF C X203 (wd 55 rfl) Frecords E (Or.inl (wd 56 rfl)) (wd 5 rfl) (ty := .int) (by decide) rfl rfl gq d8_7 (fun T204 h204 X204 W204 F204 => ?_)
  have Fbounds_205 : Fld Z h204 q "com/example/vitruvius/vitruvius/csv/CsvBatch" "bounds" "[I" (.ref a1) := (Fld.other W204 Fbounds (Or.inr (slot_ne (Or.inl (C.w (wd 15 rfl))) (Or.inl (C.w (wd 56 rfl))) (by decide) (t := (.array .int)) (t' := .int) (by decide) (by decide))))
  have FfirstFields_206 : Fld Z h204 q "com/example/vitruvius/vitruvius/csv/CsvBatch" "firstFields" "[I" (.ref a2) := (Fld.other W204 FfirstFields (Or.inr (slot_ne (Or.inl (C.w (wd 17 rfl))) (Or.inl (C.w (wd 56 rfl))) (by decide) (t := (.array .int)) (t' := .int) (by decide) (by decide))))
  have Fcapacity_207 : Fld Z h204 q "com/example/vitruvius/vitruvius/csv/CsvBatch" "capacity" "I" (.int cp.toInt32) := (Fld.other W204 Fcapacity (Or.inr (slot_ne (Or.inr (C.w (wd 23 rfl))) (Or.inl (C.w (wd 56 rfl))) (by decide) (t := .int) (t' := .int) (by decide) (by decide))))
  have Fbytes_208 : Fld Z h204 q "com/example/vitruvius/vitruvius/csv/CsvBatch" "bytes" "[B" (.ref a4) := (Fld.other W204 Fbytes (Or.inr (slot_ne (Or.inl (C.w (wd 26 rfl))) (Or.inl (C.w (wd 56 rfl))) (by decide) (t := (.array .byte)) (t' := .int) (by decide) (by decide))))
  have Ffields_209 : Fld Z h204 q "com/example/vitruvius/vitruvius/csv/CsvBatch" "fields" "I" (.int (1 : Int32)) := (Fld.other W204 Ffields (Or.inr (slot_ne (Or.inl (C.w (wd 49 rfl))) (Or.inl (C.w (wd 56 rfl))) (by decide) (t := .int) (t' := .int) (by decide) (by decide))))
  show Go p e below s n0 _ _ _ (T204.setTop (mkF m 10 #[.val (.ref q)] []))
  refine Go.st (fun _ => XS.aloadN X204.here C.hx rfl (hb C.hby d8_10) rfl rfl) ?_
  show Go p e below s n0 _ _ _ (T204.setTop (mkF m 11 #[.val (.ref q)] [(.ref q)]))
  refine Go.getF C X204 (wd 16 rfl) FfirstFields_206 d8_11 (fun T210 X210 => ?_)
  show Go p e below s n0 _ _ _ (T210.setTop (mkF m 14 #[.val (.ref q)] [(.ref a2)]))
  refine Go.st (fun _ => XS.aloadN X210.here C.hx rfl (hb C.hby d8_14) rfl rfl) ?_
  show Go p e below s n0 _ _ _ (T210.setTop (mkF m 15 #[.val (.ref q)] [(.ref q), (.ref a2)]))
  refine Go.getF C X210 (wd 55 rfl) F204 d8_15 (fun T211 X211 => ?_)
  show Go p e below s n0 _ _ _ (T211.setTop (mkF m 18 #[.val (.ref q)] [(.int (1 : Int32)), (.ref a2)]))
  refine Go.st (fun _ => XS.aloadN X211.here C.hx rfl (hb C.hby d8_18) rfl rfl) ?_
  show Go p e below s n0 _ _ _ (T211.setTop (mkF m 19 #[.val (.ref q)] [(.ref q), (.int (1 : Int32)), (.ref a2)]))
  refine Go.getF C X211 (wd 48 rfl) Ffields_209 d8_19 (fun T212 X212 => ?_)
  show Go p e below s n0 _ _ _ (T212.setTop (mkF m 22 #[.val (.ref q)] [(.int (1 : Int32)), (.int (1 : Int32)), (.ref a2)]))
  refine Go.iastore C X212 (Aa2.other W204 (Ne.symm nq2)) (by decide) (by rw [lF]; decide) g2 d8_22 (fun T213 h213 X213 W213 A213 => ?_)
  have Fbounds_214 : Fld Z h213 q "com/example/vitruvius/vitruvius/csv/CsvBatch" "bounds" "[I" (.ref a1) := (Fld.other W213 Fbounds_205 (Or.inl nq2))
  have FfirstFields_215 : Fld Z h213 q "com/example/vitruvius/vitruvius/csv/CsvBatch" "firstFields" "[I" (.ref a2) := (Fld.other W213 FfirstFields_206 (Or.inl nq2))
  have Fcapacity_216 : Fld Z h213 q "com/example/vitruvius/vitruvius/csv/CsvBatch" "capacity" "I" (.int cp.toInt32) := (Fld.other W213 Fcapacity_207 (Or.inl nq2))
  have Ffields_217 : Fld Z h213 q "com/example/vitruvius/vitruvius/csv/CsvBatch" "fields" "I" (.int (1 : Int32)) := (Fld.other W213 Ffields_209 (Or.inl nq2))
  have Aa1_218 : AR Z h213 a1 .int B := ((Aa1.other W204 (Ne.symm nq1)).other W213 n12)
  have Aa4_219 : AR Z h213 a4 .byte (Z0L n) := ((Aa4.other W204 (Ne.symm nq4)).other W213 (Ne.symm n24))
  show Go p e below s n0 _ _ _ (T213.setTop (mkF m 23 #[.val (.ref q)] []))
  exact Go.retV C X213 d8_23 ⟨rfl, _, ⟨(Exa.wr W213 (Exa.wr W204 E)), Fbounds_214, FfirstFields_215, Fcapacity_216, (Fld.other W213 Fbytes_208 (Or.inl nq2)), Ffields_217, (Fld.other W213 F204 (Or.inl nq2)), Aa1_218, A213, Aa4_219, (Exa.wr W213 (Exa.wr W204 E4)), lB, (by rw [List.length_set]; exact lF), (by rw [List.getElem?_set]; exact f0), (fun _ => by rw [List.getElem?_set]; show (if 1 = 1 then _ else _) = _; rw [if_pos rfl, if_pos (by rw [lF]; decide)])⟩⟩ (by decide) (by decide)
theorem d9_0 : decode prog_1_method_7_code 0 = .ok (.aload_n 0, 1) := by decide +kernel
theorem d9_1 : decode prog_1_method_7_code 1 = .ok (.getfield 34, 3) := by decide +kernel
theorem d9_4 : decode prog_1_method_7_code 4 = .ok (.areturn, 1) := by decide +kernel
theorem pf_9 : plainFor (⟨"com/example/vitruvius/vitruvius/csv/CsvBatch", "bytes", "()[B"⟩ : MethodName) = true := plainFor_of_name (by first | (simp [plainName, overriddenIn]; done) | decide +kernel)
theorem pd_9 : parseMethodDescriptor "()[B" = some ⟨[], some (.array .byte)⟩ := by decide +kernel
set_option maxRecDepth 65536 in
set_option maxHeartbeats 40000000 in
theorem con_bytes (l : Launch) (Z : State) (a0 : Array Value) (hw : ∀ d ∈ tables_1, d.before a0 Z = true) (n0 : Nat) (h0 : Heap) (Z0 : n0 ≤ h0.size) (q a1 a2 a4 : Addr) (cp n : Nat) (nf nr : Int32) (B F : List Value) (hq : CB Z h0 q a1 a2 a4 cp n nf nr B F) :
    Con l Z (⟨"com/example/vitruvius/vitruvius/csv/CsvBatch", "bytes", "()[B"⟩ : MethodName) prog_1_method_7_code 1 (some (.array .byte)) [] ({ frames := 0, cells := 0, slots := 0, locals := 0 } : Room) n0 #[(.ref q)] h0 (fun v h => v = some (.ref a4) ∧ h = h0) := by
  refine Con.mk pf_9 hw Z0 ?_
  intro p e s m below meth c T0 C X0
  have ef : entryFrame m #[(.ref q)] 1 = mkF m 0 #[.val (.ref q)] [] := by first | (simp [entryFrame, mkF, argsToLocals, Value.category]; done) | rfl
  rw [ef]
  obtain ⟨E, Fbounds, FfirstFields, Fcapacity, Fbytes, Ffields, Frecords, Aa1, Aa2, Aa4, E4, lB, lF, f0, f1⟩ := hq
  show Go p e below s n0 _ _ _ (T0.setTop (mkF m 0 #[.val (.ref q)] []))
  refine Go.st (fun _ => XS.aloadN X0.here C.hx rfl (hb C.hby d9_0) rfl rfl) ?_
  show Go p e below s n0 _ _ _ (T0.setTop (mkF m 1 #[.val (.ref q)] [(.ref q)]))
  refine Go.getF C X0 (wd 25 rfl) Fbytes d9_1 (fun T220 X220 => ?_)
  show Go p e below s n0 _ _ _ (T220.setTop (mkF m 4 #[.val (.ref q)] [(.ref a4)]))
  exact Go.retA C X220 rfl rfl d9_4 ⟨rfl, rfl⟩ (by decide) (by decide)
theorem d11_0 : decode prog_1_method_3_code 0 = .ok (.aload_n 0, 1) := by decide +kernel
theorem d11_1 : decode prog_1_method_3_code 1 = .ok (.getfield 38, 3) := by decide +kernel
theorem d11_4 : decode prog_1_method_3_code 4 = .ok (.ireturn, 1) := by decide +kernel
theorem pf_11 : plainFor (⟨"com/example/vitruvius/vitruvius/csv/CsvBatch", "records", "()I"⟩ : MethodName) = true := plainFor_of_name (by first | (simp [plainName, overriddenIn]; done) | decide +kernel)
theorem pd_11 : parseMethodDescriptor "()I" = some ⟨[], some .int⟩ := by decide +kernel
set_option maxRecDepth 65536 in
set_option maxHeartbeats 40000000 in
theorem con_records (l : Launch) (Z : State) (a0 : Array Value) (hw : ∀ d ∈ tables_1, d.before a0 Z = true) (n0 : Nat) (h0 : Heap) (Z0 : n0 ≤ h0.size) (q a1 a2 a4 : Addr) (cp n : Nat) (nf nr : Int32) (B F : List Value) (hq : CB Z h0 q a1 a2 a4 cp n nf nr B F) :
    Con l Z (⟨"com/example/vitruvius/vitruvius/csv/CsvBatch", "records", "()I"⟩ : MethodName) prog_1_method_3_code 1 (some .int) [] ({ frames := 0, cells := 0, slots := 0, locals := 0 } : Room) n0 #[(.ref q)] h0 (fun v h => v = some (.int nr) ∧ h = h0) := by
  refine Con.mk pf_11 hw Z0 ?_
  intro p e s m below meth c T0 C X0
  have ef : entryFrame m #[(.ref q)] 1 = mkF m 0 #[.val (.ref q)] [] := by first | (simp [entryFrame, mkF, argsToLocals, Value.category]; done) | rfl
  rw [ef]
  obtain ⟨E, Fbounds, FfirstFields, Fcapacity, Fbytes, Ffields, Frecords, Aa1, Aa2, Aa4, E4, lB, lF, f0, f1⟩ := hq
  show Go p e below s n0 _ _ _ (T0.setTop (mkF m 0 #[.val (.ref q)] []))
  refine Go.st (fun _ => XS.aloadN X0.here C.hx rfl (hb C.hby d11_0) rfl rfl) ?_
  show Go p e below s n0 _ _ _ (T0.setTop (mkF m 1 #[.val (.ref q)] [(.ref q)]))
  refine Go.getF C X0 (wd 55 rfl) Frecords d11_1 (fun T221 X221 => ?_)
  show Go p e below s n0 _ _ _ (T221.setTop (mkF m 4 #[.val (.ref q)] [(.int nr)]))
  exact Go.retI C X221 d11_4 ⟨rfl, rfl⟩ (by decide) (by decide)
theorem d12_0 : decode prog_1_method_4_code 0 = .ok (.aload_n 0, 1) := by decide +kernel
theorem d12_1 : decode prog_1_method_4_code 1 = .ok (.getfield 17, 3) := by decide +kernel
theorem d12_4 : decode prog_1_method_4_code 4 = .ok (.iload_n 1, 1) := by decide +kernel
theorem d12_5 : decode prog_1_method_4_code 5 = .ok (.iconst 1, 1) := by decide +kernel
theorem d12_6 : decode prog_1_method_4_code 6 = .ok (.iadd, 1) := by decide +kernel
theorem d12_7 : decode prog_1_method_4_code 7 = .ok (.iaload, 1) := by decide +kernel
theorem d12_8 : decode prog_1_method_4_code 8 = .ok (.aload_n 0, 1) := by decide +kernel
theorem d12_9 : decode prog_1_method_4_code 9 = .ok (.getfield 17, 3) := by decide +kernel
theorem d12_12 : decode prog_1_method_4_code 12 = .ok (.iload_n 1, 1) := by decide +kernel
theorem d12_13 : decode prog_1_method_4_code 13 = .ok (.iaload, 1) := by decide +kernel
theorem d12_14 : decode prog_1_method_4_code 14 = .ok (.isub, 1) := by decide +kernel
theorem d12_15 : decode prog_1_method_4_code 15 = .ok (.ireturn, 1) := by decide +kernel
theorem pf_12 : plainFor (⟨"com/example/vitruvius/vitruvius/csv/CsvBatch", "fields", "(I)I"⟩ : MethodName) = true := plainFor_of_name (by first | (simp [plainName, overriddenIn]; done) | decide +kernel)
theorem pd_12 : parseMethodDescriptor "(I)I" = some ⟨[.int], some .int⟩ := by decide +kernel
set_option maxRecDepth 65536 in
set_option maxHeartbeats 40000000 in
theorem con_fields (l : Launch) (Z : State) (a0 : Array Value) (hw : ∀ d ∈ tables_1, d.before a0 Z = true) (n0 : Nat) (h0 : Heap) (Z0 : n0 ≤ h0.size) (q a1 a2 a4 : Addr) (cp n : Nat) (nf : Int32) (B F : List Value) (hq : CB Z h0 q a1 a2 a4 cp n nf 1 B F) :
    Con l Z (⟨"com/example/vitruvius/vitruvius/csv/CsvBatch", "fields", "(I)I"⟩ : MethodName) prog_1_method_4_code 2 (some .int) [] ({ frames := 0, cells := 0, slots := 0, locals := 0 } : Room) n0 #[(.ref q), (.int (0 : Int32))] h0 (fun v h => v = some (.int 1) ∧ h = h0) := by
  refine Con.mk pf_12 hw Z0 ?_
  intro p e s m below meth c T0 C X0
  have ef : entryFrame m #[(.ref q), (.int (0 : Int32))] 2 = mkF m 0 #[.val (.ref q), .val (.int (0 : Int32))] [] := by first | (simp [entryFrame, mkF, argsToLocals, Value.category]; done) | rfl
  rw [ef]
  obtain ⟨E, Fbounds, FfirstFields, Fcapacity, Fbytes, Ffields, Frecords, Aa1, Aa2, Aa4, E4, lB, lF, f0, f1⟩ := hq
  show Go p e below s n0 _ _ _ (T0.setTop (mkF m 0 #[.val (.ref q), .val (.int (0 : Int32))] []))
  refine Go.st (fun _ => XS.aloadN X0.here C.hx rfl (hb C.hby d12_0) rfl rfl) ?_
  show Go p e below s n0 _ _ _ (T0.setTop (mkF m 1 #[.val (.ref q), .val (.int (0 : Int32))] [(.ref q)]))
  refine Go.getF C X0 (wd 16 rfl) FfirstFields d12_1 (fun T222 X222 => ?_)
  show Go p e below s n0 _ _ _ (T222.setTop (mkF m 4 #[.val (.ref q), .val (.int (0 : Int32))] [(.ref a2)]))
  refine Go.st (fun _ => XS.iloadN X222.here C.hx rfl (hb C.hby d12_4) rfl) ?_
  show Go p e below s n0 _ _ _ (T222.setTop (mkF m 5 #[.val (.ref q), .val (.int (0 : Int32))] [(.int (0 : Int32)), (.ref a2)]))
  refine Go.st (fun _ => XS.iconst X222.here C.hx rfl (hb C.hby d12_5)) ?_
  show Go p e below s n0 _ _ _ (T222.setTop (mkF m 6 #[.val (.ref q), .val (.int (0 : Int32))] [(.int (1 : Int32)), (.int (0 : Int32)), (.ref a2)]))
  refine Go.st (fun _ => XS.iadd X222.here C.hx rfl (hb C.hby d12_6) rfl) ?_
  show Go p e below s n0 _ _ _ (T222.setTop (mkF m 7 #[.val (.ref q), .val (.int (0 : Int32))] [(.int (1 : Int32)), (.ref a2)]))
  refine Go.iaload C X222 Aa2 (by decide) (f1 rfl) d12_7 ?_
  show Go p e below s n0 _ _ _ (T222.setTop (mkF m 8 #[.val (.ref q), .val (.int (0 : Int32))] [(.int (1 : Int32))]))
  refine Go.st (fun _ => XS.aloadN X222.here C.hx rfl (hb C.hby d12_8) rfl rfl) ?_
  show Go p e below s n0 _ _ _ (T222.setTop (mkF m 9 #[.val (.ref q), .val (.int (0 : Int32))] [(.ref q), (.int (1 : Int32))]))
  refine Go.getF C X222 (wd 16 rfl) FfirstFields d12_9 (fun T223 X223 => ?_)
  show Go p e below s n0 _ _ _ (T223.setTop (mkF m 12 #[.val (.ref q), .val (.int (0 : Int32))] [(.ref a2), (.int (1 : Int32))]))
  refine Go.st (fun _ => XS.iloadN X223.here C.hx rfl (hb C.hby d12_12) rfl) ?_
  show Go p e below s n0 _ _ _ (T223.setTop (mkF m 13 #[.val (.ref q), .val (.int (0 : Int32))] [(.int (0 : Int32)), (.ref a2), (.int (1 : Int32))]))
  refine Go.iaload C X223 Aa2 (by decide) f0 d12_13 ?_
  show Go p e below s n0 _ _ _ (T223.setTop (mkF m 14 #[.val (.ref q), .val (.int (0 : Int32))] [(.int (0 : Int32)), (.int (1 : Int32))]))
  refine Go.st (fun _ => XS.isub X223.here C.hx rfl (hb C.hby d12_14) rfl) ?_
  show Go p e below s n0 _ _ _ (T223.setTop (mkF m 15 #[.val (.ref q), .val (.int (0 : Int32))] [(.int (1 : Int32))]))
  exact Go.retI C X223 d12_15 ⟨rfl, rfl⟩ (by decide) (by decide)
theorem d10_0 : decode prog_1_method_12_code 0 = .ok (.aload_n 0, 1) := by decide +kernel
theorem d10_1 : decode prog_1_method_12_code 1 = .ok (.getfield 34, 3) := by decide +kernel
theorem d10_4 : decode prog_1_method_12_code 4 = .ok (.arraylength, 1) := by decide +kernel
theorem d10_5 : decode prog_1_method_12_code 5 = .ok (.iload_n 1, 1) := by decide +kernel
theorem d10_6 : decode prog_1_method_12_code 6 = .ok (.if_icmp .ge 13, 3) := by decide +kernel
theorem d10_9 : decode prog_1_method_12_code 9 = .ok (.aload_n 0, 1) := by decide +kernel
theorem d10_10 : decode prog_1_method_12_code 10 = .ok (.iload_n 1, 1) := by decide +kernel
theorem d10_11 : decode prog_1_method_12_code 11 = .ok (.newarray .byte, 2) := by decide +kernel
theorem d10_13 : decode prog_1_method_12_code 13 = .ok (.putfield 34, 3) := by decide +kernel
theorem d10_16 : decode prog_1_method_12_code 16 = .ok (.goto 33, 3) := by decide +kernel
theorem d10_19 : decode prog_1_method_12_code 19 = .ok (.aload_n 0, 1) := by decide +kernel
theorem d10_20 : decode prog_1_method_12_code 20 = .ok (.getfield 34, 3) := by decide +kernel
theorem d10_23 : decode prog_1_method_12_code 23 = .ok (.arraylength, 1) := by decide +kernel
theorem d10_24 : decode prog_1_method_12_code 24 = .ok (.aload_n 0, 1) := by decide +kernel
theorem d10_25 : decode prog_1_method_12_code 25 = .ok (.getfield 30, 3) := by decide +kernel
theorem d10_28 : decode prog_1_method_12_code 28 = .ok (.if_icmp .le 21, 3) := by decide +kernel
theorem d10_31 : decode prog_1_method_12_code 31 = .ok (.iload_n 1, 1) := by decide +kernel
theorem d10_32 : decode prog_1_method_12_code 32 = .ok (.aload_n 0, 1) := by decide +kernel
theorem d10_33 : decode prog_1_method_12_code 33 = .ok (.getfield 30, 3) := by decide +kernel
theorem d10_36 : decode prog_1_method_12_code 36 = .ok (.if_icmp .gt 13, 3) := by decide +kernel
theorem d10_39 : decode prog_1_method_12_code 39 = .ok (.aload_n 0, 1) := by decide +kernel
theorem d10_40 : decode prog_1_method_12_code 40 = .ok (.aload_n 0, 1) := by decide +kernel
theorem d10_41 : decode prog_1_method_12_code 41 = .ok (.getfield 30, 3) := by decide +kernel
theorem d10_44 : decode prog_1_method_12_code 44 = .ok (.newarray .byte, 2) := by decide +kernel
theorem d10_46 : decode prog_1_method_12_code 46 = .ok (.putfield 34, 3) := by decide +kernel
theorem d10_49 : decode prog_1_method_12_code 49 = .ok (.aload_n 0, 1) := by decide +kernel
theorem d10_50 : decode prog_1_method_12_code 50 = .ok (.iconst 0, 1) := by decide +kernel
theorem d10_51 : decode prog_1_method_12_code 51 = .ok (.putfield 77, 3) := by decide +kernel
theorem d10_54 : decode prog_1_method_12_code 54 = .ok (.aload_n 0, 1) := by decide +kernel
theorem d10_55 : decode prog_1_method_12_code 55 = .ok (.iconst 0, 1) := by decide +kernel
theorem d10_56 : decode prog_1_method_12_code 56 = .ok (.putfield 38, 3) := by decide +kernel
theorem d10_59 : decode prog_1_method_12_code 59 = .ok (.return_, 1) := by decide +kernel
theorem pf_10 : plainFor (⟨"com/example/vitruvius/vitruvius/csv/CsvBatch", "clear", "(I)V"⟩ : MethodName) = true := plainFor_of_name (by first | (simp [plainName, overriddenIn]; done) | decide +kernel)
theorem pd_10 : parseMethodDescriptor "(I)V" = some ⟨[.int], none⟩ := by decide +kernel
set_option maxRecDepth 65536 in
set_option maxHeartbeats 40000000 in
theorem con_clear (l : Launch) (Z : State) (a0 : Array Value) (hw : ∀ d ∈ tables_1, d.before a0 Z = true) (n0 : Nat) (h0 : Heap) (Z0 : n0 ≤ h0.size) (q a1 a2 a4 : Addr) (cp n : Nat) (lz nf nr : Int32) (B F : List Value) (hl : lz < 96) (hn : n < 64) (hc0 : 0 < cp) (hc48 : cp < 48) (hD : DC n0 q a1 a2 a4) (hq : CB Z h0 q a1 a2 a4 cp n nf nr B F) :
    Con l Z (⟨"com/example/vitruvius/vitruvius/csv/CsvBatch", "clear", "(I)V"⟩ : MethodName) prog_1_method_12_code 2 none [] ({ frames := 0, cells := 1, slots := 96, locals := 0 } : Room) n0 #[(.ref q), (.int lz)] h0 (fun v h => v = none ∧ ∃ a4' n', n' < 96 ∧ DC n0 q a1 a2 a4' ∧ CB Z h q a1 a2 a4' cp n' 0 0 B F ∧ n'.toInt32 = (if n.toInt32 < lz then lz else if cp.toInt32 < n.toInt32 ∧ ¬ cp.toInt32 < lz then cp.toInt32 else n.toInt32) ∧ (a4' = a4 ↔ n' = n)) := by
  refine Con.mk pf_10 hw Z0 ?_
  intro p e s m below meth c T0 C X0
  have ef : entryFrame m #[(.ref q), (.int lz)] 2 = mkF m 0 #[.val (.ref q), .val (.int lz)] [] := by first | (simp [entryFrame, mkF, argsToLocals, Value.category]; done) | rfl
  rw [ef]
  obtain ⟨E, Fbounds, FfirstFields, Fcapacity, Fbytes, Ffields, Frecords, Aa1, Aa2, Aa4, E4, lB, lF, f0, f1⟩ := hq
  obtain ⟨gq, g1, g2, g4, nq1, nq2, nq4, n12, n14, n24⟩ := hD
  show Go p e below s n0 _ _ _ (T0.setTop (mkF m 0 #[.val (.ref q), .val (.int lz)] []))
  refine Go.st (fun _ => XS.aloadN X0.here C.hx rfl (hb C.hby d10_0) rfl rfl) ?_
  show Go p e below s n0 _ _ _ (T0.setTop (mkF m 1 #[.val (.ref q), .val (.int lz)] [(.ref q)]))
  refine Go.getF C X0 (wd 25 rfl) Fbytes d10_1 (fun T224 X224 => ?_)
  show Go p e below s n0 _ _ _ (T224.setTop (mkF m 4 #[.val (.ref q), .val (.int lz)] [(.ref a4)]))
  refine Go.alen C X224 Aa4 (z := n.toInt32) (by unfold Z0L; rw [List.length_replicate]) d10_4 ?_
  show Go p e below s n0 _ _ _ (T224.setTop (mkF m 5 #[.val (.ref q), .val (.int lz)] [(.int n.toInt32)]))
  refine Go.st (fun _ => XS.iloadN X224.here C.hx rfl (hb C.hby d10_5) rfl) ?_
  show Go p e below s n0 _ _ _ (T224.setTop (mkF m 6 #[.val (.ref q), .val (.int lz)] [(.int lz), (.int n.toInt32)]))
  refine Go.icmp_ge C X224 (pc' := 19) d10_6 (by decide) (by decide) (fun hc6_225 => ?_) (fun hc6_225 => ?_)
  · show Go p e below s n0 _ _ _ (T224.setTop (mkF m 19 #[.val (.ref q), .val (.int lz)] []))
    refine Go.st (fun _ => XS.aloadN X224.here C.hx rfl (hb C.hby d10_19) rfl rfl) ?_
    show Go p e below s n0 _ _ _ (T224.setTop (mkF m 20 #[.val (.ref q), .val (.int lz)] [(.ref q)]))
    refine Go.getF C X224 (wd 25 rfl) Fbytes d10_20 (fun T226 X226 => ?_)
    show Go p e below s n0 _ _ _ (T226.setTop (mkF m 23 #[.val (.ref q), .val (.int lz)] [(.ref a4)]))
    refine Go.alen C X226 Aa4 (z := n.toInt32) (by unfold Z0L; rw [List.length_replicate]) d10_23 ?_
    show Go p e below s n0 _ _ _ (T226.setTop (mkF m 24 #[.val (.ref q), .val (.int lz)] [(.int n.toInt32)]))
    refine Go.st (fun _ => XS.aloadN X226.here C.hx rfl (hb C.hby d10_24) rfl rfl) ?_
    show Go p e below s n0 _ _ _ (T226.setTop (mkF m 25 #[.val (.ref q), .val (.int lz)] [(.ref q), (.int n.toInt32)]))
    refine Go.getF C X226 (wd 22 rfl) Fcapacity d10_25 (fun T227 X227 => ?_)
    show Go p e below s n0 _ _ _ (T227.setTop (mkF m 28 #[.val (.ref q), .val (.int lz)] [(.int cp.toInt32), (.int n.toInt32)]))
    refine Go.icmp_le C X227 (pc' := 49) d10_28 (by decide) (by decide) (fun hc28_228 => ?_) (fun hc28_228 => ?_)
    · show Go p e below s n0 _ _ _ (T227.setTop (mkF m 49 #[.val (.ref q), .val (.int lz)] []))
      refine Go.st (fun _ => XS.aloadN X227.here C.hx rfl (hb C.hby d10_49) rfl rfl) ?_
      show Go p e below s n0 _ _ _ (T227.setTop (mkF m 50 #[.val (.ref q), .val (.int lz)] [(.ref q)]))
      refine Go.st (fun _ => XS.iconst X227.here C.hx rfl (hb C.hby d10_50)) ?_
      show Go p e below s n0 _ _ _ (T227.setTop (mkF m 51 #[.val (.ref q), .val (.int lz)] [(.int (0 : Int32)), (.ref q)]))
      refine Go.putF C X227 (wd 48 rfl) Ffields E (Or.inl (wd 49 rfl)) (wd 5 rfl) (ty := .int) (by decide) rfl rfl gq d10_51 (fun T229 h229 X229 W229 F229 => ?_)
      have Fbounds_230 : Fld Z h229 q "com/example/vitruvius/vitruvius/csv/CsvBatch" "bounds" "[I" (.ref a1) := (Fld.other W229 Fbounds (Or.inr (slot_ne (Or.inl (C.w (wd 15 rfl))) (Or.inl (C.w (wd 49 rfl))) (by decide) (t := (.array .int)) (t' := .int) (by decide) (by decide))))
      have FfirstFields_231 : Fld Z h229 q "com/example/vitruvius/vitruvius/csv/CsvBatch" "firstFields" "[I" (.ref a2) := (Fld.other W229 FfirstFields (Or.inr (slot_ne (Or.inl (C.w (wd 17 rfl))) (Or.inl (C.w (wd 49 rfl))) (by decide) (t := (.array .int)) (t' := .int) (by decide) (by decide))))
      have Fcapacity_232 : Fld Z h229 q "com/example/vitruvius/vitruvius/csv/CsvBatch" "capacity" "I" (.int cp.toInt32) := (Fld.other W229 Fcapacity (Or.inr (slot_ne (Or.inr (C.w (wd 23 rfl))) (Or.inl (C.w (wd 49 rfl))) (by decide) (t := .int) (t' := .int) (by decide) (by decide))))
      have Fbytes_233 : Fld Z h229 q "com/example/vitruvius/vitruvius/csv/CsvBatch" "bytes" "[B" (.ref a4) := (Fld.other W229 Fbytes (Or.inr (slot_ne (Or.inl (C.w (wd 26 rfl))) (Or.inl (C.w (wd 49 rfl))) (by decide) (t := (.array .byte)) (t' := .int) (by decide) (by decide))))
      have Frecords_234 : Fld Z h229 q "com/example/vitruvius/vitruvius/csv/CsvBatch" "records" "I" (.int nr) := (Fld.other W229 Frecords (Or.inr (slot_ne (Or.inl (C.w (wd 56 rfl))) (Or.inl (C.w (wd 49 rfl))) (by decide) (t := .int) (t' := .int) (by decide) (by decide))))
      show Go p e below s n0 _ _ _ (T229.setTop (mkF m 54 #[.val (.ref q), .val (.int lz)] []))
      refine Go.st (fun _ => XS.aloadN X229.here C.hx rfl (hb C.hby d10_54) rfl rfl) ?_
      show Go p e below s n0 _ _ _ (T229.setTop (mkF m 55 #[.val (.ref q), .val (.int lz)] [(.ref q)]))
      refine Go.st (fun _ => XS.iconst X229.here C.hx rfl (hb C.hby d10_55)) ?_
      show Go p e below s n0 _ _ _ (T229.setTop (mkF m 56 #[.val (.ref q), .val (.int lz)] [(.int (0 : Int32)), (.ref q)]))
      refine Go.putF C X229 (wd 55 rfl) Frecords_234 (Exa.wr W229 E) (Or.inl (wd 56 rfl)) (wd 5 rfl) (ty := .int) (by decide) rfl rfl gq d10_56 (fun T235 h235 X235 W235 F235 => ?_)
      have Fbounds_236 : Fld Z h235 q "com/example/vitruvius/vitruvius/csv/CsvBatch" "bounds" "[I" (.ref a1) := (Fld.other W235 Fbounds_230 (Or.inr (slot_ne (Or.inl (C.w (wd 15 rfl))) (Or.inl (C.w (wd 56 rfl))) (by decide) (t := (.array .int)) (t' := .int) (by decide) (by decide))))
      have FfirstFields_237 : Fld Z h235 q "com/example/vitruvius/vitruvius/csv/CsvBatch" "firstFields" "[I" (.ref a2) := (Fld.other W235 FfirstFields_231 (Or.inr (slot_ne (Or.inl (C.w (wd 17 rfl))) (Or.inl (C.w (wd 56 rfl))) (by decide) (t := (.array .int)) (t' := .int) (by decide) (by decide))))
      have Fcapacity_238 : Fld Z h235 q "com/example/vitruvius/vitruvius/csv/CsvBatch" "capacity" "I" (.int cp.toInt32) := (Fld.other W235 Fcapacity_232 (Or.inr (slot_ne (Or.inr (C.w (wd 23 rfl))) (Or.inl (C.w (wd 56 rfl))) (by decide) (t := .int) (t' := .int) (by decide) (by decide))))
      have Fbytes_239 : Fld Z h235 q "com/example/vitruvius/vitruvius/csv/CsvBatch" "bytes" "[B" (.ref a4) := (Fld.other W235 Fbytes_233 (Or.inr (slot_ne (Or.inl (C.w (wd 26 rfl))) (Or.inl (C.w (wd 56 rfl))) (by decide) (t := (.array .byte)) (t' := .int) (by decide) (by decide))))
      have Ffields_240 : Fld Z h235 q "com/example/vitruvius/vitruvius/csv/CsvBatch" "fields" "I" (.int (0 : Int32)) := (Fld.other W235 F229 (Or.inr (slot_ne (Or.inl (C.w (wd 49 rfl))) (Or.inl (C.w (wd 56 rfl))) (by decide) (t := .int) (t' := .int) (by decide) (by decide))))
      have Aa1_241 : AR Z h235 a1 .int B := ((Aa1.other W229 (Ne.symm nq1)).other W235 (Ne.symm nq1))
      have Aa2_242 : AR Z h235 a2 .int F := ((Aa2.other W229 (Ne.symm nq2)).other W235 (Ne.symm nq2))
      have Aa4_243 : AR Z h235 a4 .byte (Z0L n) := ((Aa4.other W229 (Ne.symm nq4)).other W235 (Ne.symm nq4))
      show Go p e below s n0 _ _ _ (T235.setTop (mkF m 59 #[.val (.ref q), .val (.int lz)] []))
      exact Go.retV C X235 d10_59 ⟨rfl, a4, n, (by omega), ⟨gq, g1, g2, g4, nq1, nq2, nq4, n12, n14, n24⟩, ⟨(Exa.wr W235 (Exa.wr W229 E)), Fbounds_236, FfirstFields_237, Fcapacity_238, Fbytes_239, Ffields_240, F235, Aa1_241, Aa2_242, Aa4_243, (Exa.wr W235 (Exa.wr W229 E4)), lB, lF, f0, (fun u => absurd u (by decide))⟩, (by simp [hc6_225, hc28_228]), ⟨fun _ => rfl, fun _ => rfl⟩⟩ (by decide) (by decide)
    · show Go p e below s n0 _ _ _ (T227.setTop (mkF m 31 #[.val (.ref q), .val (.int lz)] []))
      refine Go.st (fun _ => XS.iloadN X227.here C.hx rfl (hb C.hby d10_31) rfl) ?_
      show Go p e below s n0 _ _ _ (T227.setTop (mkF m 32 #[.val (.ref q), .val (.int lz)] [(.int lz)]))
      refine Go.st (fun _ => XS.aloadN X227.here C.hx rfl (hb C.hby d10_32) rfl rfl) ?_
      show Go p e below s n0 _ _ _ (T227.setTop (mkF m 33 #[.val (.ref q), .val (.int lz)] [(.ref q), (.int lz)]))
      refine Go.getF C X227 (wd 22 rfl) Fcapacity d10_33 (fun T244 X244 => ?_)
      show Go p e below s n0 _ _ _ (T244.setTop (mkF m 36 #[.val (.ref q), .val (.int lz)] [(.int cp.toInt32), (.int lz)]))
      refine Go.icmp_gt C X244 (pc' := 49) d10_36 (by decide) (by decide) (fun hc36_245 => ?_) (fun hc36_245 => ?_)
      · show Go p e below s n0 _ _ _ (T244.setTop (mkF m 49 #[.val (.ref q), .val (.int lz)] []))
        refine Go.st (fun _ => XS.aloadN X244.here C.hx rfl (hb C.hby d10_49) rfl rfl) ?_
        show Go p e below s n0 _ _ _ (T244.setTop (mkF m 50 #[.val (.ref q), .val (.int lz)] [(.ref q)]))
        refine Go.st (fun _ => XS.iconst X244.here C.hx rfl (hb C.hby d10_50)) ?_
        show Go p e below s n0 _ _ _ (T244.setTop (mkF m 51 #[.val (.ref q), .val (.int lz)] [(.int (0 : Int32)), (.ref q)]))
        refine Go.putF C X244 (wd 48 rfl) Ffields E (Or.inl (wd 49 rfl)) (wd 5 rfl) (ty := .int) (by decide) rfl rfl gq d10_51 (fun T246 h246 X246 W246 F246 => ?_)
        have Fbounds_247 : Fld Z h246 q "com/example/vitruvius/vitruvius/csv/CsvBatch" "bounds" "[I" (.ref a1) := (Fld.other W246 Fbounds (Or.inr (slot_ne (Or.inl (C.w (wd 15 rfl))) (Or.inl (C.w (wd 49 rfl))) (by decide) (t := (.array .int)) (t' := .int) (by decide) (by decide))))
        have FfirstFields_248 : Fld Z h246 q "com/example/vitruvius/vitruvius/csv/CsvBatch" "firstFields" "[I" (.ref a2) := (Fld.other W246 FfirstFields (Or.inr (slot_ne (Or.inl (C.w (wd 17 rfl))) (Or.inl (C.w (wd 49 rfl))) (by decide) (t := (.array .int)) (t' := .int) (by decide) (by decide))))
        have Fcapacity_249 : Fld Z h246 q "com/example/vitruvius/vitruvius/csv/CsvBatch" "capacity" "I" (.int cp.toInt32) := (Fld.other W246 Fcapacity (Or.inr (slot_ne (Or.inr (C.w (wd 23 rfl))) (Or.inl (C.w (wd 49 rfl))) (by decide) (t := .int) (t' := .int) (by decide) (by decide))))
        have Fbytes_250 : Fld Z h246 q "com/example/vitruvius/vitruvius/csv/CsvBatch" "bytes" "[B" (.ref a4) := (Fld.other W246 Fbytes (Or.inr (slot_ne (Or.inl (C.w (wd 26 rfl))) (Or.inl (C.w (wd 49 rfl))) (by decide) (t := (.array .byte)) (t' := .int) (by decide) (by decide))))
        have Frecords_251 : Fld Z h246 q "com/example/vitruvius/vitruvius/csv/CsvBatch" "records" "I" (.int nr) := (Fld.other W246 Frecords (Or.inr (slot_ne (Or.inl (C.w (wd 56 rfl))) (Or.inl (C.w (wd 49 rfl))) (by decide) (t := .int) (t' := .int) (by decide) (by decide))))
        show Go p e below s n0 _ _ _ (T246.setTop (mkF m 54 #[.val (.ref q), .val (.int lz)] []))
        refine Go.st (fun _ => XS.aloadN X246.here C.hx rfl (hb C.hby d10_54) rfl rfl) ?_
        show Go p e below s n0 _ _ _ (T246.setTop (mkF m 55 #[.val (.ref q), .val (.int lz)] [(.ref q)]))
        refine Go.st (fun _ => XS.iconst X246.here C.hx rfl (hb C.hby d10_55)) ?_
        show Go p e below s n0 _ _ _ (T246.setTop (mkF m 56 #[.val (.ref q), .val (.int lz)] [(.int (0 : Int32)), (.ref q)]))
        refine Go.putF C X246 (wd 55 rfl) Frecords_251 (Exa.wr W246 E) (Or.inl (wd 56 rfl)) (wd 5 rfl) (ty := .int) (by decide) rfl rfl gq d10_56 (fun T252 h252 X252 W252 F252 => ?_)
        have Fbounds_253 : Fld Z h252 q "com/example/vitruvius/vitruvius/csv/CsvBatch" "bounds" "[I" (.ref a1) := (Fld.other W252 Fbounds_247 (Or.inr (slot_ne (Or.inl (C.w (wd 15 rfl))) (Or.inl (C.w (wd 56 rfl))) (by decide) (t := (.array .int)) (t' := .int) (by decide) (by decide))))
        have FfirstFields_254 : Fld Z h252 q "com/example/vitruvius/vitruvius/csv/CsvBatch" "firstFields" "[I" (.ref a2) := (Fld.other W252 FfirstFields_248 (Or.inr (slot_ne (Or.inl (C.w (wd 17 rfl))) (Or.inl (C.w (wd 56 rfl))) (by decide) (t := (.array .int)) (t' := .int) (by decide) (by decide))))
        have Fcapacity_255 : Fld Z h252 q "com/example/vitruvius/vitruvius/csv/CsvBatch" "capacity" "I" (.int cp.toInt32) := (Fld.other W252 Fcapacity_249 (Or.inr (slot_ne (Or.inr (C.w (wd 23 rfl))) (Or.inl (C.w (wd 56 rfl))) (by decide) (t := .int) (t' := .int) (by decide) (by decide))))
        have Fbytes_256 : Fld Z h252 q "com/example/vitruvius/vitruvius/csv/CsvBatch" "bytes" "[B" (.ref a4) := (Fld.other W252 Fbytes_250 (Or.inr (slot_ne (Or.inl (C.w (wd 26 rfl))) (Or.inl (C.w (wd 56 rfl))) (by decide) (t := (.array .byte)) (t' := .int) (by decide) (by decide))))
        have Ffields_257 : Fld Z h252 q "com/example/vitruvius/vitruvius/csv/CsvBatch" "fields" "I" (.int (0 : Int32)) := (Fld.other W252 F246 (Or.inr (slot_ne (Or.inl (C.w (wd 49 rfl))) (Or.inl (C.w (wd 56 rfl))) (by decide) (t := .int) (t' := .int) (by decide) (by decide))))
        have Aa1_258 : AR Z h252 a1 .int B := ((Aa1.other W246 (Ne.symm nq1)).other W252 (Ne.symm nq1))
        have Aa2_259 : AR Z h252 a2 .int F := ((Aa2.other W246 (Ne.symm nq2)).other W252 (Ne.symm nq2))
        have Aa4_260 : AR Z h252 a4 .byte (Z0L n) := ((Aa4.other W246 (Ne.symm nq4)).other W252 (Ne.symm nq4))
        show Go p e below s n0 _ _ _ (T252.setTop (mkF m 59 #[.val (.ref q), .val (.int lz)] []))
        exact Go.retV C X252 d10_59 ⟨rfl, a4, n, (by omega), ⟨gq, g1, g2, g4, nq1, nq2, nq4, n12, n14, n24⟩, ⟨(Exa.wr W252 (Exa.wr W246 E)), Fbounds_253, FfirstFields_254, Fcapacity_255, Fbytes_256, Ffields_257, F252, Aa1_258, Aa2_259, Aa4_260, (Exa.wr W252 (Exa.wr W246 E4)), lB, lF, f0, (fun u => absurd u (by decide))⟩, (by simp [hc6_225, hc28_228, hc36_245]), ⟨fun _ => rfl, fun _ => rfl⟩⟩ (by decide) (by decide)
      · show Go p e below s n0 _ _ _ (T244.setTop (mkF m 39 #[.val (.ref q), .val (.int lz)] []))
        refine Go.st (fun _ => XS.aloadN X244.here C.hx rfl (hb C.hby d10_39) rfl rfl) ?_
        show Go p e below s n0 _ _ _ (T244.setTop (mkF m 40 #[.val (.ref q), .val (.int lz)] [(.ref q)]))
        refine Go.st (fun _ => XS.aloadN X244.here C.hx rfl (hb C.hby d10_40) rfl rfl) ?_
        show Go p e below s n0 _ _ _ (T244.setTop (mkF m 41 #[.val (.ref q), .val (.int lz)] [(.ref q), (.ref q)]))
        refine Go.getF C X244 (wd 22 rfl) Fcapacity d10_41 (fun T261 X261 => ?_)
        show Go p e below s n0 _ _ _ (T261.setTop (mkF m 44 #[.val (.ref q), .val (.int lz)] [(.int cp.toInt32), (.ref q)]))
        refine Go.newPE C X261 (aty := .byte) (cap := 96) (ad := "[B") (wd 24 rfl) (by decide) d10_44 (nn32 (by omega)) (by rw [cl32 (by omega)]; omega) (by decide) (by decide) (by decide) (fun T262 h262 b262 g262 ge262 X262 E262 A262 EX262 => ?_)
        have ne_q_b262 : q ≠ b262 := Nat.ne_of_lt (Nat.lt_of_lt_of_le (E).lt (Nat.le_of_eq g262))
        have ne_a1_b262 : a1 ≠ b262 := Nat.ne_of_lt (Nat.lt_of_lt_of_le (Aa1).lt (Nat.le_of_eq g262))
        have ne_a2_b262 : a2 ≠ b262 := Nat.ne_of_lt (Nat.lt_of_lt_of_le (Aa2).lt (Nat.le_of_eq g262))
        have ne_a4_b262 : a4 ≠ b262 := Nat.ne_of_lt (Nat.lt_of_lt_of_le (Aa4).lt (Nat.le_of_eq g262))
        have A_b262 : AR Z h262 b262 .byte (Z0L cp) := (by have u := A262; rw [cl32 (by omega)] at u; exact u)
        show Go p e below s n0 _ _ _ (T262.setTop (mkF m 46 #[.val (.ref q), .val (.int lz)] [(.ref b262), (.ref q)]))
        refine Go.putF C X262 (wd 25 rfl) (Fld.ext E262 Fbytes) (Exa.ext E262 E) (Or.inl (wd 26 rfl)) (wd 5 rfl) (ty := (.array .byte)) (by decide) rfl rfl gq d10_46 (fun T263 h263 X263 W263 F263 => ?_)
        have Fbounds_264 : Fld Z h263 q "com/example/vitruvius/vitruvius/csv/CsvBatch" "bounds" "[I" (.ref a1) := (Fld.other W263 (Fld.ext E262 Fbounds) (Or.inr (slot_ne (Or.inl (C.w (wd 15 rfl))) (Or.inl (C.w (wd 26 rfl))) (by decide) (t := (.array .int)) (t' := (.array .byte)) (by decide) (by decide))))
        have FfirstFields_265 : Fld Z h263 q "com/example/vitruvius/vitruvius/csv/CsvBatch" "firstFields" "[I" (.ref a2) := (Fld.other W263 (Fld.ext E262 FfirstFields) (Or.inr (slot_ne (Or.inl (C.w (wd 17 rfl))) (Or.inl (C.w (wd 26 rfl))) (by decide) (t := (.array .int)) (t' := (.array .byte)) (by decide) (by decide))))
        have Fcapacity_266 : Fld Z h263 q "com/example/vitruvius/vitruvius/csv/CsvBatch" "capacity" "I" (.int cp.toInt32) := (Fld.other W263 (Fld.ext E262 Fcapacity) (Or.inr (slot_ne (Or.inr (C.w (wd 23 rfl))) (Or.inl (C.w (wd 26 rfl))) (by decide) (t := .int) (t' := (.array .byte)) (by decide) (by decide))))
        have Ffields_267 : Fld Z h263 q "com/example/vitruvius/vitruvius/csv/CsvBatch" "fields" "I" (.int nf) := (Fld.other W263 (Fld.ext E262 Ffields) (Or.inr (slot_ne (Or.inl (C.w (wd 49 rfl))) (Or.inl (C.w (wd 26 rfl))) (by decide) (t := .int) (t' := (.array .byte)) (by decide) (by decide))))
        have Frecords_268 : Fld Z h263 q "com/example/vitruvius/vitruvius/csv/CsvBatch" "records" "I" (.int nr) := (Fld.other W263 (Fld.ext E262 Frecords) (Or.inr (slot_ne (Or.inl (C.w (wd 56 rfl))) (Or.inl (C.w (wd 26 rfl))) (by decide) (t := .int) (t' := (.array .byte)) (by decide) (by decide))))
        have Aa1_269 : AR Z h263 a1 .int B := ((Aa1.ext E262).other W263 (Ne.symm nq1))
        have Aa2_270 : AR Z h263 a2 .int F := ((Aa2.ext E262).other W263 (Ne.symm nq2))
        have Aa4_271 : AR Z h263 a4 .byte (Z0L n) := ((Aa4.ext E262).other W263 (Ne.symm nq4))
        show Go p e below s n0 _ _ _ (T263.setTop (mkF m 49 #[.val (.ref q), .val (.int lz)] []))
        refine Go.st (fun _ => XS.aloadN X263.here C.hx rfl (hb C.hby d10_49) rfl rfl) ?_
        show Go p e below s n0 _ _ _ (T263.setTop (mkF m 50 #[.val (.ref q), .val (.int lz)] [(.ref q)]))
        refine Go.st (fun _ => XS.iconst X263.here C.hx rfl (hb C.hby d10_50)) ?_
        show Go p e below s n0 _ _ _ (T263.setTop (mkF m 51 #[.val (.ref q), .val (.int lz)] [(.int (0 : Int32)), (.ref q)]))
        refine Go.putF C X263 (wd 48 rfl) Ffields_267 (Exa.wr W263 (Exa.ext E262 E)) (Or.inl (wd 49 rfl)) (wd 5 rfl) (ty := .int) (by decide) rfl rfl gq d10_51 (fun T272 h272 X272 W272 F272 => ?_)
        have E_273 : Exa Z h272 q "com/example/vitruvius/vitruvius/csv/CsvBatch" := (Exa.wr W272 (Exa.wr W263 (Exa.ext E262 E)))
        have Fbounds_274 : Fld Z h272 q "com/example/vitruvius/vitruvius/csv/CsvBatch" "bounds" "[I" (.ref a1) := (Fld.other W272 Fbounds_264 (Or.inr (slot_ne (Or.inl (C.w (wd 15 rfl))) (Or.inl (C.w (wd 49 rfl))) (by decide) (t := (.array .int)) (t' := .int) (by decide) (by decide))))
        have FfirstFields_275 : Fld Z h272 q "com/example/vitruvius/vitruvius/csv/CsvBatch" "firstFields" "[I" (.ref a2) := (Fld.other W272 FfirstFields_265 (Or.inr (slot_ne (Or.inl (C.w (wd 17 rfl))) (Or.inl (C.w (wd 49 rfl))) (by decide) (t := (.array .int)) (t' := .int) (by decide) (by decide))))
        have Fcapacity_276 : Fld Z h272 q "com/example/vitruvius/vitruvius/csv/CsvBatch" "capacity" "I" (.int cp.toInt32) := (Fld.other W272 Fcapacity_266 (Or.inr (slot_ne (Or.inr (C.w (wd 23 rfl))) (Or.inl (C.w (wd 49 rfl))) (by decide) (t := .int) (t' := .int) (by decide) (by decide))))
        have Fbytes_277 : Fld Z h272 q "com/example/vitruvius/vitruvius/csv/CsvBatch" "bytes" "[B" (.ref b262) := (Fld.other W272 F263 (Or.inr (slot_ne (Or.inl (C.w (wd 26 rfl))) (Or.inl (C.w (wd 49 rfl))) (by decide) (t := (.array .byte)) (t' := .int) (by decide) (by decide))))
        have Frecords_278 : Fld Z h272 q "com/example/vitruvius/vitruvius/csv/CsvBatch" "records" "I" (.int nr) := (Fld.other W272 Frecords_268 (Or.inr (slot_ne (Or.inl (C.w (wd 56 rfl))) (Or.inl (C.w (wd 49 rfl))) (by decide) (t := .int) (t' := .int) (by decide) (by decide))))
        have E4_279 : Exa Z h272 a4 "[B" := (Exa.wr W272 (Exa.wr W263 (Exa.ext E262 E4)))
        have A_b262_280 : AR Z h272 b262 .byte (Z0L cp) := ((A_b262.other W263 (Ne.symm ne_q_b262)).other W272 (Ne.symm ne_q_b262))
        show Go p e below s n0 _ _ _ (T272.setTop (mkF m 54 #[.val (.ref q), .val (.int lz)] []))
        refine Go.st (fun _ => XS.aloadN X272.here C.hx rfl (hb C.hby d10_54) rfl rfl) ?_
        show Go p e below s n0 _ _ _ (T272.setTop (mkF m 55 #[.val (.ref q), .val (.int lz)] [(.ref q)]))
        refine Go.st (fun _ => XS.iconst X272.here C.hx rfl (hb C.hby d10_55)) ?_
        show Go p e below s n0 _ _ _ (T272.setTop (mkF m 56 #[.val (.ref q), .val (.int lz)] [(.int (0 : Int32)), (.ref q)]))
        refine Go.putF C X272 (wd 55 rfl) Frecords_278 E_273 (Or.inl (wd 56 rfl)) (wd 5 rfl) (ty := .int) (by decide) rfl rfl gq d10_56 (fun T281 h281 X281 W281 F281 => ?_)
        have Fbounds_282 : Fld Z h281 q "com/example/vitruvius/vitruvius/csv/CsvBatch" "bounds" "[I" (.ref a1) := (Fld.other W281 Fbounds_274 (Or.inr (slot_ne (Or.inl (C.w (wd 15 rfl))) (Or.inl (C.w (wd 56 rfl))) (by decide) (t := (.array .int)) (t' := .int) (by decide) (by decide))))
        have FfirstFields_283 : Fld Z h281 q "com/example/vitruvius/vitruvius/csv/CsvBatch" "firstFields" "[I" (.ref a2) := (Fld.other W281 FfirstFields_275 (Or.inr (slot_ne (Or.inl (C.w (wd 17 rfl))) (Or.inl (C.w (wd 56 rfl))) (by decide) (t := (.array .int)) (t' := .int) (by decide) (by decide))))
        have Fcapacity_284 : Fld Z h281 q "com/example/vitruvius/vitruvius/csv/CsvBatch" "capacity" "I" (.int cp.toInt32) := (Fld.other W281 Fcapacity_276 (Or.inr (slot_ne (Or.inr (C.w (wd 23 rfl))) (Or.inl (C.w (wd 56 rfl))) (by decide) (t := .int) (t' := .int) (by decide) (by decide))))
        have Fbytes_285 : Fld Z h281 q "com/example/vitruvius/vitruvius/csv/CsvBatch" "bytes" "[B" (.ref b262) := (Fld.other W281 Fbytes_277 (Or.inr (slot_ne (Or.inl (C.w (wd 26 rfl))) (Or.inl (C.w (wd 56 rfl))) (by decide) (t := (.array .byte)) (t' := .int) (by decide) (by decide))))
        have Ffields_286 : Fld Z h281 q "com/example/vitruvius/vitruvius/csv/CsvBatch" "fields" "I" (.int (0 : Int32)) := (Fld.other W281 F272 (Or.inr (slot_ne (Or.inl (C.w (wd 49 rfl))) (Or.inl (C.w (wd 56 rfl))) (by decide) (t := .int) (t' := .int) (by decide) (by decide))))
        have Aa1_287 : AR Z h281 a1 .int B := ((Aa1_269.other W272 (Ne.symm nq1)).other W281 (Ne.symm nq1))
        have Aa2_288 : AR Z h281 a2 .int F := ((Aa2_270.other W272 (Ne.symm nq2)).other W281 (Ne.symm nq2))
        have Aa4_289 : AR Z h281 a4 .byte (Z0L n) := ((Aa4_271.other W272 (Ne.symm nq4)).other W281 (Ne.symm nq4))
        have A_b262_290 : AR Z h281 b262 .byte (Z0L cp) := (A_b262_280.other W281 (Ne.symm ne_q_b262))
        have E_b262_291 : Exa Z h281 b262 "[B" := (Exa.wr W281 (Exa.wr W272 (Exa.wr W263 EX262)))
        show Go p e below s n0 _ _ _ (T281.setTop (mkF m 59 #[.val (.ref q), .val (.int lz)] []))
        exact Go.retV C X281 d10_59 ⟨rfl, b262, cp, (by omega), ⟨gq, g1, g2, ge262, nq1, nq2, ne_q_b262, n12, ne_a1_b262, ne_a2_b262⟩, ⟨(Exa.wr W281 E_273), Fbounds_282, FfirstFields_283, Fcapacity_284, Fbytes_285, Ffields_286, F281, Aa1_287, Aa2_288, A_b262_290, E_b262_291, lB, lF, f0, (fun u => absurd u (by decide))⟩, (by simp [hc6_225, hc28_228, hc36_245]), ⟨fun u => absurd u (Ne.symm ne_a4_b262), fun u => absurd u (by have u := (ltI (by omega) (by omega)).mp hc28_228; omega)⟩⟩ (by decide) (by decide)
  · obtain ⟨lk, hk1, hk2, hk3, hk4⟩ := lenNat hl hn hc6_225
    show Go p e below s n0 _ _ _ (T224.setTop (mkF m 9 #[.val (.ref q), .val (.int lz)] []))
    refine Go.st (fun _ => XS.aloadN X224.here C.hx rfl (hb C.hby d10_9) rfl rfl) ?_
    show Go p e below s n0 _ _ _ (T224.setTop (mkF m 10 #[.val (.ref q), .val (.int lz)] [(.ref q)]))
    refine Go.st (fun _ => XS.iloadN X224.here C.hx rfl (hb C.hby d10_10) rfl) ?_
    show Go p e below s n0 _ _ _ (T224.setTop (mkF m 11 #[.val (.ref q), .val (.int lz)] [(.int lz), (.ref q)]))
    refine Go.newPE C X224 (aty := .byte) (cap := 96) (ad := "[B") (wd 24 rfl) (by decide) d10_11 hk4 (by rw [hk3, cl32 (by omega)]; omega) (by decide) (by decide) (by decide) (fun T292 h292 b292 g292 ge292 X292 E292 A292 EX292 => ?_)
    have ne_q_b292 : q ≠ b292 := Nat.ne_of_lt (Nat.lt_of_lt_of_le (E).lt (Nat.le_of_eq g292))
    have ne_a1_b292 : a1 ≠ b292 := Nat.ne_of_lt (Nat.lt_of_lt_of_le (Aa1).lt (Nat.le_of_eq g292))
    have ne_a2_b292 : a2 ≠ b292 := Nat.ne_of_lt (Nat.lt_of_lt_of_le (Aa2).lt (Nat.le_of_eq g292))
    have ne_a4_b292 : a4 ≠ b292 := Nat.ne_of_lt (Nat.lt_of_lt_of_le (Aa4).lt (Nat.le_of_eq g292))
    have A_b292 : AR Z h292 b292 .byte (Z0L lk) := (by have u := A292; rw [hk3, cl32 (by omega)] at u; exact u)
    show Go p e below s n0 _ _ _ (T292.setTop (mkF m 13 #[.val (.ref q), .val (.int lz)] [(.ref b292), (.ref q)]))
    refine Go.putF C X292 (wd 25 rfl) (Fld.ext E292 Fbytes) (Exa.ext E292 E) (Or.inl (wd 26 rfl)) (wd 5 rfl) (ty := (.array .byte)) (by decide) rfl rfl gq d10_13 (fun T293 h293 X293 W293 F293 => ?_)
    have Fbounds_294 : Fld Z h293 q "com/example/vitruvius/vitruvius/csv/CsvBatch" "bounds" "[I" (.ref a1) := (Fld.other W293 (Fld.ext E292 Fbounds) (Or.inr (slot_ne (Or.inl (C.w (wd 15 rfl))) (Or.inl (C.w (wd 26 rfl))) (by decide) (t := (.array .int)) (t' := (.array .byte)) (by decide) (by decide))))
    have FfirstFields_295 : Fld Z h293 q "com/example/vitruvius/vitruvius/csv/CsvBatch" "firstFields" "[I" (.ref a2) := (Fld.other W293 (Fld.ext E292 FfirstFields) (Or.inr (slot_ne (Or.inl (C.w (wd 17 rfl))) (Or.inl (C.w (wd 26 rfl))) (by decide) (t := (.array .int)) (t' := (.array .byte)) (by decide) (by decide))))
    have Fcapacity_296 : Fld Z h293 q "com/example/vitruvius/vitruvius/csv/CsvBatch" "capacity" "I" (.int cp.toInt32) := (Fld.other W293 (Fld.ext E292 Fcapacity) (Or.inr (slot_ne (Or.inr (C.w (wd 23 rfl))) (Or.inl (C.w (wd 26 rfl))) (by decide) (t := .int) (t' := (.array .byte)) (by decide) (by decide))))
    have Ffields_297 : Fld Z h293 q "com/example/vitruvius/vitruvius/csv/CsvBatch" "fields" "I" (.int nf) := (Fld.other W293 (Fld.ext E292 Ffields) (Or.inr (slot_ne (Or.inl (C.w (wd 49 rfl))) (Or.inl (C.w (wd 26 rfl))) (by decide) (t := .int) (t' := (.array .byte)) (by decide) (by decide))))
    have Frecords_298 : Fld Z h293 q "com/example/vitruvius/vitruvius/csv/CsvBatch" "records" "I" (.int nr) := (Fld.other W293 (Fld.ext E292 Frecords) (Or.inr (slot_ne (Or.inl (C.w (wd 56 rfl))) (Or.inl (C.w (wd 26 rfl))) (by decide) (t := .int) (t' := (.array .byte)) (by decide) (by decide))))
    have Aa1_299 : AR Z h293 a1 .int B := ((Aa1.ext E292).other W293 (Ne.symm nq1))
    have Aa2_300 : AR Z h293 a2 .int F := ((Aa2.ext E292).other W293 (Ne.symm nq2))
    have Aa4_301 : AR Z h293 a4 .byte (Z0L n) := ((Aa4.ext E292).other W293 (Ne.symm nq4))
    show Go p e below s n0 _ _ _ (T293.setTop (mkF m 16 #[.val (.ref q), .val (.int lz)] []))
    refine Go.st (fun _ => XS.goto X293.here C.hx rfl (pc0 := 16) (pc' := 49) rfl (hb C.hby d10_16) (by decide) (by decide)) ?_
    show Go p e below s n0 _ _ _ (T293.setTop (mkF m 49 #[.val (.ref q), .val (.int lz)] []))
    refine Go.st (fun _ => XS.aloadN X293.here C.hx rfl (hb C.hby d10_49) rfl rfl) ?_
    show Go p e below s n0 _ _ _ (T293.setTop (mkF m 50 #[.val (.ref q), .val (.int lz)] [(.ref q)]))
    refine Go.st (fun _ => XS.iconst X293.here C.hx rfl (hb C.hby d10_50)) ?_
    show Go p e below s n0 _ _ _ (T293.setTop (mkF m 51 #[.val (.ref q), .val (.int lz)] [(.int (0 : Int32)), (.ref q)]))
    refine Go.putF C X293 (wd 48 rfl) Ffields_297 (Exa.wr W293 (Exa.ext E292 E)) (Or.inl (wd 49 rfl)) (wd 5 rfl) (ty := .int) (by decide) rfl rfl gq d10_51 (fun T302 h302 X302 W302 F302 => ?_)
    have E_303 : Exa Z h302 q "com/example/vitruvius/vitruvius/csv/CsvBatch" := (Exa.wr W302 (Exa.wr W293 (Exa.ext E292 E)))
    have Fbounds_304 : Fld Z h302 q "com/example/vitruvius/vitruvius/csv/CsvBatch" "bounds" "[I" (.ref a1) := (Fld.other W302 Fbounds_294 (Or.inr (slot_ne (Or.inl (C.w (wd 15 rfl))) (Or.inl (C.w (wd 49 rfl))) (by decide) (t := (.array .int)) (t' := .int) (by decide) (by decide))))
    have FfirstFields_305 : Fld Z h302 q "com/example/vitruvius/vitruvius/csv/CsvBatch" "firstFields" "[I" (.ref a2) := (Fld.other W302 FfirstFields_295 (Or.inr (slot_ne (Or.inl (C.w (wd 17 rfl))) (Or.inl (C.w (wd 49 rfl))) (by decide) (t := (.array .int)) (t' := .int) (by decide) (by decide))))
    have Fcapacity_306 : Fld Z h302 q "com/example/vitruvius/vitruvius/csv/CsvBatch" "capacity" "I" (.int cp.toInt32) := (Fld.other W302 Fcapacity_296 (Or.inr (slot_ne (Or.inr (C.w (wd 23 rfl))) (Or.inl (C.w (wd 49 rfl))) (by decide) (t := .int) (t' := .int) (by decide) (by decide))))
    have Fbytes_307 : Fld Z h302 q "com/example/vitruvius/vitruvius/csv/CsvBatch" "bytes" "[B" (.ref b292) := (Fld.other W302 F293 (Or.inr (slot_ne (Or.inl (C.w (wd 26 rfl))) (Or.inl (C.w (wd 49 rfl))) (by decide) (t := (.array .byte)) (t' := .int) (by decide) (by decide))))
    have Frecords_308 : Fld Z h302 q "com/example/vitruvius/vitruvius/csv/CsvBatch" "records" "I" (.int nr) := (Fld.other W302 Frecords_298 (Or.inr (slot_ne (Or.inl (C.w (wd 56 rfl))) (Or.inl (C.w (wd 49 rfl))) (by decide) (t := .int) (t' := .int) (by decide) (by decide))))
    have E4_309 : Exa Z h302 a4 "[B" := (Exa.wr W302 (Exa.wr W293 (Exa.ext E292 E4)))
    have A_b292_310 : AR Z h302 b292 .byte (Z0L lk) := ((A_b292.other W293 (Ne.symm ne_q_b292)).other W302 (Ne.symm ne_q_b292))
    show Go p e below s n0 _ _ _ (T302.setTop (mkF m 54 #[.val (.ref q), .val (.int lz)] []))
    refine Go.st (fun _ => XS.aloadN X302.here C.hx rfl (hb C.hby d10_54) rfl rfl) ?_
    show Go p e below s n0 _ _ _ (T302.setTop (mkF m 55 #[.val (.ref q), .val (.int lz)] [(.ref q)]))
    refine Go.st (fun _ => XS.iconst X302.here C.hx rfl (hb C.hby d10_55)) ?_
    show Go p e below s n0 _ _ _ (T302.setTop (mkF m 56 #[.val (.ref q), .val (.int lz)] [(.int (0 : Int32)), (.ref q)]))
    refine Go.putF C X302 (wd 55 rfl) Frecords_308 E_303 (Or.inl (wd 56 rfl)) (wd 5 rfl) (ty := .int) (by decide) rfl rfl gq d10_56 (fun T311 h311 X311 W311 F311 => ?_)
    have Fbounds_312 : Fld Z h311 q "com/example/vitruvius/vitruvius/csv/CsvBatch" "bounds" "[I" (.ref a1) := (Fld.other W311 Fbounds_304 (Or.inr (slot_ne (Or.inl (C.w (wd 15 rfl))) (Or.inl (C.w (wd 56 rfl))) (by decide) (t := (.array .int)) (t' := .int) (by decide) (by decide))))
    have FfirstFields_313 : Fld Z h311 q "com/example/vitruvius/vitruvius/csv/CsvBatch" "firstFields" "[I" (.ref a2) := (Fld.other W311 FfirstFields_305 (Or.inr (slot_ne (Or.inl (C.w (wd 17 rfl))) (Or.inl (C.w (wd 56 rfl))) (by decide) (t := (.array .int)) (t' := .int) (by decide) (by decide))))
    have Fcapacity_314 : Fld Z h311 q "com/example/vitruvius/vitruvius/csv/CsvBatch" "capacity" "I" (.int cp.toInt32) := (Fld.other W311 Fcapacity_306 (Or.inr (slot_ne (Or.inr (C.w (wd 23 rfl))) (Or.inl (C.w (wd 56 rfl))) (by decide) (t := .int) (t' := .int) (by decide) (by decide))))
    have Fbytes_315 : Fld Z h311 q "com/example/vitruvius/vitruvius/csv/CsvBatch" "bytes" "[B" (.ref b292) := (Fld.other W311 Fbytes_307 (Or.inr (slot_ne (Or.inl (C.w (wd 26 rfl))) (Or.inl (C.w (wd 56 rfl))) (by decide) (t := (.array .byte)) (t' := .int) (by decide) (by decide))))
    have Ffields_316 : Fld Z h311 q "com/example/vitruvius/vitruvius/csv/CsvBatch" "fields" "I" (.int (0 : Int32)) := (Fld.other W311 F302 (Or.inr (slot_ne (Or.inl (C.w (wd 49 rfl))) (Or.inl (C.w (wd 56 rfl))) (by decide) (t := .int) (t' := .int) (by decide) (by decide))))
    have Aa1_317 : AR Z h311 a1 .int B := ((Aa1_299.other W302 (Ne.symm nq1)).other W311 (Ne.symm nq1))
    have Aa2_318 : AR Z h311 a2 .int F := ((Aa2_300.other W302 (Ne.symm nq2)).other W311 (Ne.symm nq2))
    have Aa4_319 : AR Z h311 a4 .byte (Z0L n) := ((Aa4_301.other W302 (Ne.symm nq4)).other W311 (Ne.symm nq4))
    have A_b292_320 : AR Z h311 b292 .byte (Z0L lk) := (A_b292_310.other W311 (Ne.symm ne_q_b292))
    have E_b292_321 : Exa Z h311 b292 "[B" := (Exa.wr W311 (Exa.wr W302 (Exa.wr W293 EX292)))
    show Go p e below s n0 _ _ _ (T311.setTop (mkF m 59 #[.val (.ref q), .val (.int lz)] []))
    exact Go.retV C X311 d10_59 ⟨rfl, b292, lk, (by omega), ⟨gq, g1, g2, ge292, nq1, nq2, ne_q_b292, n12, ne_a1_b292, ne_a2_b292⟩, ⟨(Exa.wr W311 E_303), Fbounds_312, FfirstFields_313, Fcapacity_314, Fbytes_315, Ffields_316, F311, Aa1_317, Aa2_318, A_b292_320, E_b292_321, lB, lF, f0, (fun u => absurd u (by decide))⟩, (by rw [if_pos hc6_225]; exact hk3.symm), ⟨fun u => absurd u (Ne.symm ne_a4_b292), fun u => absurd u (by omega)⟩⟩ (by decide) (by decide)
theorem pf_0 : plainFor x = true := plainFor_of_name (by first | (simp [plainName, overriddenIn]; done) | decide +kernel)
theorem pd_0 : parseMethodDescriptor "(III)Z" = some ⟨[.int, .int, .int], some .boolean⟩ := by decide +kernel
set_option maxRecDepth 65536 in
set_option maxHeartbeats 40000000 in
theorem con_law (l : Launch) (Z : State) (a0 : Array Value) (hw : ∀ d ∈ tables_1, d.before a0 Z = true) (n0 : Nat) (h0 : Heap) (Z0 : n0 ≤ h0.size) (xc xg xl : Int32)  :
    Con l Z x code maxLocals ret tables_1 room_1 n0 #[(.int xc), (.int xg), (.int xl)] h0 (fun v h => v = some (.int 1)) := by
  refine Con.mk pf_0 hw Z0 ?_
  intro p e s m below meth c T0 C X0
  have ef : entryFrame m #[(.int xc), (.int xg), (.int xl)] maxLocals = mkF m 0 #[.val (.int xc), .val (.int xg), .val (.int xl), .unset, .unset, .unset, .unset, .unset, .unset, .unset, .unset, .unset] [] := by first | (simp [entryFrame, mkF, argsToLocals, Value.category, maxLocals]; done) | rfl
  rw [ef]
  show Go p e below s n0 _ _ _ (T0.setTop (mkF m 0 #[.val (.int xc), .val (.int xg), .val (.int xl), .unset, .unset, .unset, .unset, .unset, .unset, .unset, .unset, .unset] []))
  refine Go.st (fun _ => XS.iloadN X0.here C.hx rfl (hb C.hby at_0) rfl) ?_
  show Go p e below s n0 _ _ _ (T0.setTop (mkF m 1 #[.val (.int xc), .val (.int xg), .val (.int xl), .unset, .unset, .unset, .unset, .unset, .unset, .unset, .unset, .unset] [(.int xc)]))
  refine Go.st (fun _ => XS.bipush X0.here C.hx rfl (hb C.hby at_1)) ?_
  show Go p e below s n0 _ _ _ (T0.setTop (mkF m 3 #[.val (.int xc), .val (.int xg), .val (.int xl), .unset, .unset, .unset, .unset, .unset, .unset, .unset, .unset, .unset] [(.int (63 : Int32)), (.int xc)]))
  refine Go.st (fun _ => XS.iand X0.here C.hx rfl (hb C.hby at_3) rfl) ?_
  show Go p e below s n0 _ _ _ (T0.setTop (mkF m 4 #[.val (.int xc), .val (.int xg), .val (.int xl), .unset, .unset, .unset, .unset, .unset, .unset, .unset, .unset, .unset] [(.int (xc &&& (63 : Int32)))]))
  refine Go.st (fun _ => XS.bipush X0.here C.hx rfl (hb C.hby at_4)) ?_
  show Go p e below s n0 _ _ _ (T0.setTop (mkF m 6 #[.val (.int xc), .val (.int xg), .val (.int xl), .unset, .unset, .unset, .unset, .unset, .unset, .unset, .unset, .unset] [(.int (16 : Int32)), (.int (xc &&& (63 : Int32)))]))
  refine Go.st (fun _ => XS.isub X0.here C.hx rfl (hb C.hby at_6) rfl) ?_
  show Go p e below s n0 _ _ _ (T0.setTop (mkF m 7 #[.val (.int xc), .val (.int xg), .val (.int xl), .unset, .unset, .unset, .unset, .unset, .unset, .unset, .unset, .unset] [(.int ((xc &&& (63 : Int32)) - (16 : Int32)))]))
  generalize hg_ca : ((xc &&& (63 : Int32)) - (16 : Int32)) = ca
  refine Go.st (fun _ => XS.istoreN X0.here C.hx rfl (hb C.hby at_7) rfl (l' := #[.val (.int xc), .val (.int xg), .val (.int xl), .val (.int ca), .unset, .unset, .unset, .unset, .unset, .unset, .unset, .unset]) rfl) ?_
  show Go p e below s n0 _ _ _ (T0.setTop (mkF m 8 #[.val (.int xc), .val (.int xg), .val (.int xl), .val (.int ca), .unset, .unset, .unset, .unset, .unset, .unset, .unset, .unset] []))
  refine Go.st (fun _ => XS.iloadN X0.here C.hx rfl (hb C.hby at_8) rfl) ?_
  show Go p e below s n0 _ _ _ (T0.setTop (mkF m 9 #[.val (.int xc), .val (.int xg), .val (.int xl), .val (.int ca), .unset, .unset, .unset, .unset, .unset, .unset, .unset, .unset] [(.int ca)]))
  refine Go.st (fun _ => XS.iconst X0.here C.hx rfl (hb C.hby at_9)) ?_
  show Go p e below s n0 _ _ _ (T0.setTop (mkF m 10 #[.val (.int xc), .val (.int xg), .val (.int xl), .val (.int ca), .unset, .unset, .unset, .unset, .unset, .unset, .unset, .unset] [(.int (1 : Int32)), (.int ca)]))
  refine Go.callS C X0 (W := 0) (argsL := [(.int ca), (.int (1 : Int32))]) (rest := []) (wd 0 rfl) (wd 1 rfl) (wd 2 rfl) (wd 3 rfl) (by decide) (con_max l Z a0 hw n0 h0 X0.size ca (1 : Int32)) (by decide) (by decide) rfl (lenOf pd_1 rfl) (Nat.le_of_ble_eq_true rfl) rfl at_10 (by decide) (by decide) (fun T322 h322 v322 X322 hQ322 => ?_)
  obtain ⟨rfl, hh322⟩ := hQ322
  rw [hh322] at X322
  show Go p e below s n0 _ _ _ (T322.setTop (mkF m 13 #[.val (.int xc), .val (.int xg), .val (.int xl), .val (.int ca), .unset, .unset, .unset, .unset, .unset, .unset, .unset, .unset] [(.int (mxF ca (1 : Int32)))]))
  generalize hg_cz : (mxF ca (1 : Int32)) = cz
  refine Go.st (fun _ => XS.istore X322.here C.hx rfl (hb C.hby at_13) rfl (l' := #[.val (.int xc), .val (.int xg), .val (.int xl), .val (.int ca), .val (.int cz), .unset, .unset, .unset, .unset, .unset, .unset, .unset]) rfl) ?_
  have hcz0 : mxF ((xc &&& (63 : Int32)) - (16 : Int32)) 1 = cz := by rw [hg_ca]; exact hg_cz
  obtain ⟨cp, hc0, hc48, rfl⟩ := capOk hcz0
  have hcp : mxF ca 1 = cp.toInt32 := hg_cz
  show Go p e below s n0 _ _ _ (T322.setTop (mkF m 15 #[.val (.int xc), .val (.int xg), .val (.int xl), .val (.int ca), .val (.int cp.toInt32), .unset, .unset, .unset, .unset, .unset, .unset, .unset] []))
  refine Go.st (fun _ => XS.iloadN X322.here C.hx rfl (hb C.hby at_15) rfl) ?_
  show Go p e below s n0 _ _ _ (T322.setTop (mkF m 16 #[.val (.int xc), .val (.int xg), .val (.int xl), .val (.int ca), .val (.int cp.toInt32), .unset, .unset, .unset, .unset, .unset, .unset, .unset] [(.int xg)]))
  refine Go.st (fun _ => XS.bipush X322.here C.hx rfl (hb C.hby at_16)) ?_
  show Go p e below s n0 _ _ _ (T322.setTop (mkF m 18 #[.val (.int xc), .val (.int xg), .val (.int xl), .val (.int ca), .val (.int cp.toInt32), .unset, .unset, .unset, .unset, .unset, .unset, .unset] [(.int (63 : Int32)), (.int xg)]))
  refine Go.st (fun _ => XS.iand X322.here C.hx rfl (hb C.hby at_18) rfl) ?_
  show Go p e below s n0 _ _ _ (T322.setTop (mkF m 19 #[.val (.int xc), .val (.int xg), .val (.int xl), .val (.int ca), .val (.int cp.toInt32), .unset, .unset, .unset, .unset, .unset, .unset, .unset] [(.int (xg &&& (63 : Int32)))]))
  generalize hg_cu0 : (xg &&& (63 : Int32)) = cu0
  refine Go.st (fun _ => XS.istore X322.here C.hx rfl (hb C.hby at_19) rfl (l' := #[.val (.int xc), .val (.int xg), .val (.int xl), .val (.int ca), .val (.int cp.toInt32), .val (.int cu0), .unset, .unset, .unset, .unset, .unset, .unset]) rfl) ?_
  obtain ⟨cu, hcu, rfl⟩ := curOk hg_cu0
  show Go p e below s n0 _ _ _ (T322.setTop (mkF m 21 #[.val (.int xc), .val (.int xg), .val (.int xl), .val (.int ca), .val (.int cp.toInt32), .val (.int cu.toInt32), .unset, .unset, .unset, .unset, .unset, .unset] []))
  refine Go.st (fun _ => XS.iloadN X322.here C.hx rfl (hb C.hby at_21) rfl) ?_
  show Go p e below s n0 _ _ _ (T322.setTop (mkF m 22 #[.val (.int xc), .val (.int xg), .val (.int xl), .val (.int ca), .val (.int cp.toInt32), .val (.int cu.toInt32), .unset, .unset, .unset, .unset, .unset, .unset] [(.int xl)]))
  refine Go.st (fun _ => XS.bipush X322.here C.hx rfl (hb C.hby at_22)) ?_
  show Go p e below s n0 _ _ _ (T322.setTop (mkF m 24 #[.val (.int xc), .val (.int xg), .val (.int xl), .val (.int ca), .val (.int cp.toInt32), .val (.int cu.toInt32), .unset, .unset, .unset, .unset, .unset, .unset] [(.int (127 : Int32)), (.int xl)]))
  refine Go.st (fun _ => XS.iand X322.here C.hx rfl (hb C.hby at_24) rfl) ?_
  show Go p e below s n0 _ _ _ (T322.setTop (mkF m 25 #[.val (.int xc), .val (.int xg), .val (.int xl), .val (.int ca), .val (.int cp.toInt32), .val (.int cu.toInt32), .unset, .unset, .unset, .unset, .unset, .unset] [(.int (xl &&& (127 : Int32)))]))
  refine Go.st (fun _ => XS.bipush X322.here C.hx rfl (hb C.hby at_25)) ?_
  show Go p e below s n0 _ _ _ (T322.setTop (mkF m 27 #[.val (.int xc), .val (.int xg), .val (.int xl), .val (.int ca), .val (.int cp.toInt32), .val (.int cu.toInt32), .unset, .unset, .unset, .unset, .unset, .unset] [(.int (32 : Int32)), (.int (xl &&& (127 : Int32)))]))
  refine Go.st (fun _ => XS.isub X322.here C.hx rfl (hb C.hby at_27) rfl) ?_
  show Go p e below s n0 _ _ _ (T322.setTop (mkF m 28 #[.val (.int xc), .val (.int xg), .val (.int xl), .val (.int ca), .val (.int cp.toInt32), .val (.int cu.toInt32), .unset, .unset, .unset, .unset, .unset, .unset] [(.int ((xl &&& (127 : Int32)) - (32 : Int32)))]))
  generalize hg_lz : ((xl &&& (127 : Int32)) - (32 : Int32)) = lz
  refine Go.st (fun _ => XS.istore X322.here C.hx rfl (hb C.hby at_28) rfl (l' := #[.val (.int xc), .val (.int xg), .val (.int xl), .val (.int ca), .val (.int cp.toInt32), .val (.int cu.toInt32), .val (.int lz), .unset, .unset, .unset, .unset, .unset]) rfl) ?_
  have hl96 := lenOk hg_lz
  show Go p e below s n0 _ _ _ (T322.setTop (mkF m 30 #[.val (.int xc), .val (.int xg), .val (.int xl), .val (.int ca), .val (.int cp.toInt32), .val (.int cu.toInt32), .val (.int lz), .unset, .unset, .unset, .unset, .unset] []))
  refine Go.newO C X322 (wd 4 rfl) (wd 5 rfl) (wd 6 rfl) at_30 (by decide) (by decide) (fun T323 h323 b323 g323 ge323 X323 E323 A323 D323 => ?_)
  have F_bounds_b323 : Fld Z h323 b323 "com/example/vitruvius/vitruvius/csv/CsvBatch" "bounds" "[I" .null := D323 (Or.inl (wd 15 rfl)) (ty := (.array .int)) (by decide)
  have F_firstFields_b323 : Fld Z h323 b323 "com/example/vitruvius/vitruvius/csv/CsvBatch" "firstFields" "[I" .null := D323 (Or.inl (wd 17 rfl)) (ty := (.array .int)) (by decide)
  have F_lines_b323 : Fld Z h323 b323 "com/example/vitruvius/vitruvius/csv/CsvBatch" "lines" "[J" .null := D323 (Or.inl (wd 20 rfl)) (ty := (.array .long)) (by decide)
  have F_capacity_b323 : Fld Z h323 b323 "com/example/vitruvius/vitruvius/csv/CsvBatch" "capacity" "I" (.int (0 : Int32)) := D323 (Or.inr (wd 23 rfl)) (ty := .int) (by decide)
  have F_bytes_b323 : Fld Z h323 b323 "com/example/vitruvius/vitruvius/csv/CsvBatch" "bytes" "[B" .null := D323 (Or.inl (wd 26 rfl)) (ty := (.array .byte)) (by decide)
  have F_fields_b323 : Fld Z h323 b323 "com/example/vitruvius/vitruvius/csv/CsvBatch" "fields" "I" (.int (0 : Int32)) := D323 (Or.inl (wd 49 rfl)) (ty := .int) (by decide)
  have F_records_b323 : Fld Z h323 b323 "com/example/vitruvius/vitruvius/csv/CsvBatch" "records" "I" (.int (0 : Int32)) := D323 (Or.inl (wd 56 rfl)) (ty := .int) (by decide)
  show Go p e below s n0 _ _ _ (T323.setTop (mkF m 33 #[.val (.int xc), .val (.int xg), .val (.int xl), .val (.int ca), .val (.int cp.toInt32), .val (.int cu.toInt32), .val (.int lz), .unset, .unset, .unset, .unset, .unset] [(.ref b323)]))
  refine Go.st (fun _ => XS.dup X323.here C.hx rfl (hb C.hby at_33) rfl rfl) ?_
  show Go p e below s n0 _ _ _ (T323.setTop (mkF m 34 #[.val (.int xc), .val (.int xg), .val (.int xl), .val (.int ca), .val (.int cp.toInt32), .val (.int cu.toInt32), .val (.int lz), .unset, .unset, .unset, .unset, .unset] [(.ref b323), (.ref b323)]))
  refine Go.st (fun _ => XS.iloadN X323.here C.hx rfl (hb C.hby at_34) rfl) ?_
  show Go p e below s n0 _ _ _ (T323.setTop (mkF m 35 #[.val (.int xc), .val (.int xg), .val (.int xl), .val (.int ca), .val (.int cp.toInt32), .val (.int cu.toInt32), .val (.int lz), .unset, .unset, .unset, .unset, .unset] [(.int ca), (.ref b323), (.ref b323)]))
  refine Go.callInit C X323 (W := 1) (argsL := [(.int ca)]) (rest := [(.ref b323)]) (a := b323) rfl (wd 7 rfl) (wd 8 rfl) (wd 6 rfl) (wd 9 rfl) (by decide) (con_init l Z a0 hw n0 h323 X323.size b323 ca cp ge323 A323 F_bounds_b323 F_firstFields_b323 F_capacity_b323 F_bytes_b323 F_fields_b323 F_records_b323 F_lines_b323 hcp hc0 hc48) (by decide) (by decide) rfl (lenOf pd_2 rfl) (Nat.le_of_ble_eq_true rfl) rfl at_35 (by decide) (by decide) (fun T324 h324 v324 X324 hQ324 => ?_)
  obtain ⟨rfl, a1_324, a2_324, a4_324, DD324, BB324⟩ := hQ324
  show Go p e below s n0 _ _ _ (T324.setTop (mkF m 38 #[.val (.int xc), .val (.int xg), .val (.int xl), .val (.int ca), .val (.int cp.toInt32), .val (.int cu.toInt32), .val (.int lz), .unset, .unset, .unset, .unset, .unset] [(.ref b323)]))
  refine Go.st (fun _ => XS.astore X324.here C.hx rfl (hb C.hby at_38) rfl rfl (l' := #[.val (.int xc), .val (.int xg), .val (.int xl), .val (.int ca), .val (.int cp.toInt32), .val (.int cu.toInt32), .val (.int lz), .val (.ref b323), .unset, .unset, .unset, .unset]) rfl) ?_
  show Go p e below s n0 _ _ _ (T324.setTop (mkF m 40 #[.val (.int xc), .val (.int xg), .val (.int xl), .val (.int ca), .val (.int cp.toInt32), .val (.int cu.toInt32), .val (.int lz), .val (.ref b323), .unset, .unset, .unset, .unset] []))
  refine Go.st (fun _ => XS.aload X324.here C.hx rfl (hb C.hby at_40) rfl rfl) ?_
  show Go p e below s n0 _ _ _ (T324.setTop (mkF m 42 #[.val (.int xc), .val (.int xg), .val (.int xl), .val (.int ca), .val (.int cp.toInt32), .val (.int cu.toInt32), .val (.int lz), .val (.ref b323), .unset, .unset, .unset, .unset] [(.ref b323)]))
  refine Go.st (fun _ => XS.iload X324.here C.hx rfl (hb C.hby at_42) rfl) ?_
  show Go p e below s n0 _ _ _ (T324.setTop (mkF m 44 #[.val (.int xc), .val (.int xg), .val (.int xl), .val (.int ca), .val (.int cp.toInt32), .val (.int cu.toInt32), .val (.int lz), .val (.ref b323), .unset, .unset, .unset, .unset] [(.int cu.toInt32), (.ref b323)]))
  refine Go.callV C X324 (W := 0) (argsL := [(.int cu.toInt32)]) (rest := []) (a := b323) (BB324).1 (wd 27 rfl) (wd 28 rfl) (wd 30 rfl) (wd 29 rfl) (wd 6 rfl) (wd 31 rfl) (by decide) rfl (con_grow l Z a0 hw n0 h324 X324.size b323 a1_324 a2_324 a4_324 cp cp cu cu.toInt32 0 0 (Z0L 64) (Z0L 17) rfl hcu (by omega) DD324 BB324) (by decide) (by decide) rfl (lenOf pd_4 rfl) (Nat.le_of_ble_eq_true rfl) rfl at_44 (by decide) (by decide) (fun T325 h325 v325 X325 hQ325 => ?_)
  obtain ⟨rfl, a4_325, DD325, BB325⟩ := hQ325
  show Go p e below s n0 _ _ _ (T325.setTop (mkF m 47 #[.val (.int xc), .val (.int xg), .val (.int xl), .val (.int ca), .val (.int cp.toInt32), .val (.int cu.toInt32), .val (.int lz), .val (.ref b323), .unset, .unset, .unset, .unset] []))
  refine Go.st (fun _ => XS.aload X325.here C.hx rfl (hb C.hby at_47) rfl rfl) ?_
  show Go p e below s n0 _ _ _ (T325.setTop (mkF m 49 #[.val (.int xc), .val (.int xg), .val (.int xl), .val (.int ca), .val (.int cp.toInt32), .val (.int cu.toInt32), .val (.int lz), .val (.ref b323), .unset, .unset, .unset, .unset] [(.ref b323)]))
  refine Go.st (fun _ => XS.iconst X325.here C.hx rfl (hb C.hby at_49)) ?_
  show Go p e below s n0 _ _ _ (T325.setTop (mkF m 50 #[.val (.int xc), .val (.int xg), .val (.int xl), .val (.int ca), .val (.int cp.toInt32), .val (.int cu.toInt32), .val (.int lz), .val (.ref b323), .unset, .unset, .unset, .unset] [(.int (0 : Int32)), (.ref b323)]))
  refine Go.st (fun _ => XS.iconst X325.here C.hx rfl (hb C.hby at_50)) ?_
  show Go p e below s n0 _ _ _ (T325.setTop (mkF m 51 #[.val (.int xc), .val (.int xg), .val (.int xl), .val (.int ca), .val (.int cp.toInt32), .val (.int cu.toInt32), .val (.int lz), .val (.ref b323), .unset, .unset, .unset, .unset] [(.int (0 : Int32)), (.int (0 : Int32)), (.ref b323)]))
  refine Go.callV C X325 (W := 0) (argsL := [(.int (0 : Int32)), (.int (0 : Int32))]) (rest := []) (a := b323) (BB325).1 (wd 43 rfl) (wd 44 rfl) (wd 46 rfl) (wd 45 rfl) (wd 6 rfl) (wd 47 rfl) (by decide) rfl (con_add l Z a0 hw n0 h325 X325.size b323 a1_324 a2_324 a4_325 cp cu (0 : Int32) (0 : Int32) 0 (Z0L 64) (Z0L 17) DD325 BB325) (by decide) (by decide) rfl (lenOf pd_7 rfl) (Nat.le_of_ble_eq_true rfl) rfl at_51 (by decide) (by decide) (fun T326 h326 v326 X326 hQ326 => ?_)
  obtain ⟨rfl, B326, BB326⟩ := hQ326
  show Go p e below s n0 _ _ _ (T326.setTop (mkF m 54 #[.val (.int xc), .val (.int xg), .val (.int xl), .val (.int ca), .val (.int cp.toInt32), .val (.int cu.toInt32), .val (.int lz), .val (.ref b323), .unset, .unset, .unset, .unset] []))
  refine Go.st (fun _ => XS.aload X326.here C.hx rfl (hb C.hby at_54) rfl rfl) ?_
  show Go p e below s n0 _ _ _ (T326.setTop (mkF m 56 #[.val (.int xc), .val (.int xg), .val (.int xl), .val (.int ca), .val (.int cp.toInt32), .val (.int cu.toInt32), .val (.int lz), .val (.ref b323), .unset, .unset, .unset, .unset] [(.ref b323)]))
  refine Go.callV C X326 (W := 0) (argsL := []) (rest := []) (a := b323) (BB326).1 (wd 50 rfl) (wd 51 rfl) (wd 53 rfl) (wd 52 rfl) (wd 6 rfl) (wd 54 rfl) (by decide) rfl (con_end l Z a0 hw n0 h326 X326.size b323 a1_324 a2_324 a4_325 cp cu B326 (Z0L 17) DD325 BB326) (by decide) (by decide) rfl (lenOf pd_8 rfl) (Nat.le_of_ble_eq_true rfl) rfl at_56 (by decide) (by decide) (fun T327 h327 v327 X327 hQ327 => ?_)
  obtain ⟨rfl, F327, BB327⟩ := hQ327
  show Go p e below s n0 _ _ _ (T327.setTop (mkF m 59 #[.val (.int xc), .val (.int xg), .val (.int xl), .val (.int ca), .val (.int cp.toInt32), .val (.int cu.toInt32), .val (.int lz), .val (.ref b323), .unset, .unset, .unset, .unset] []))
  refine Go.st (fun _ => XS.aload X327.here C.hx rfl (hb C.hby at_59) rfl rfl) ?_
  show Go p e below s n0 _ _ _ (T327.setTop (mkF m 61 #[.val (.int xc), .val (.int xg), .val (.int xl), .val (.int ca), .val (.int cp.toInt32), .val (.int cu.toInt32), .val (.int lz), .val (.ref b323), .unset, .unset, .unset, .unset] [(.ref b323)]))
  refine Go.callV C X327 (W := 0) (argsL := []) (rest := []) (a := b323) (BB327).1 (wd 57 rfl) (wd 58 rfl) (wd 60 rfl) (wd 59 rfl) (wd 6 rfl) (wd 61 rfl) (by decide) rfl (con_bytes l Z a0 hw n0 h327 X327.size b323 a1_324 a2_324 a4_325 cp cu 1 1 B326 F327 BB327) (by decide) (by decide) rfl (lenOf pd_9 rfl) (Nat.le_of_ble_eq_true rfl) rfl at_61 (by decide) (by decide) (fun T328 h328 v328 X328 hQ328 => ?_)
  obtain ⟨rfl, hh328⟩ := hQ328
  rw [hh328] at X328
  show Go p e below s n0 _ _ _ (T328.setTop (mkF m 64 #[.val (.int xc), .val (.int xg), .val (.int xl), .val (.int ca), .val (.int cp.toInt32), .val (.int cu.toInt32), .val (.int lz), .val (.ref b323), .unset, .unset, .unset, .unset] [(.ref a4_325)]))
  refine Go.st (fun _ => XS.astore X328.here C.hx rfl (hb C.hby at_64) rfl rfl (l' := #[.val (.int xc), .val (.int xg), .val (.int xl), .val (.int ca), .val (.int cp.toInt32), .val (.int cu.toInt32), .val (.int lz), .val (.ref b323), .val (.ref a4_325), .unset, .unset, .unset]) rfl) ?_
  show Go p e below s n0 _ _ _ (T328.setTop (mkF m 66 #[.val (.int xc), .val (.int xg), .val (.int xl), .val (.int ca), .val (.int cp.toInt32), .val (.int cu.toInt32), .val (.int lz), .val (.ref b323), .val (.ref a4_325), .unset, .unset, .unset] []))
  refine Go.st (fun _ => XS.aload X328.here C.hx rfl (hb C.hby at_66) rfl rfl) ?_
  show Go p e below s n0 _ _ _ (T328.setTop (mkF m 68 #[.val (.int xc), .val (.int xg), .val (.int xl), .val (.int ca), .val (.int cp.toInt32), .val (.int cu.toInt32), .val (.int lz), .val (.ref b323), .val (.ref a4_325), .unset, .unset, .unset] [(.ref b323)]))
  refine Go.st (fun _ => XS.iload X328.here C.hx rfl (hb C.hby at_68) rfl) ?_
  show Go p e below s n0 _ _ _ (T328.setTop (mkF m 70 #[.val (.int xc), .val (.int xg), .val (.int xl), .val (.int ca), .val (.int cp.toInt32), .val (.int cu.toInt32), .val (.int lz), .val (.ref b323), .val (.ref a4_325), .unset, .unset, .unset] [(.int lz), (.ref b323)]))
  refine Go.callV C X328 (W := 0) (argsL := [(.int lz)]) (rest := []) (a := b323) (BB327).1 (wd 62 rfl) (wd 63 rfl) (wd 65 rfl) (wd 64 rfl) (wd 6 rfl) (wd 66 rfl) (by decide) rfl (con_clear l Z a0 hw n0 h327 X328.size b323 a1_324 a2_324 a4_325 cp cu lz 1 1 B326 F327 hl96 hcu hc0 hc48 DD325 BB327) (by decide) (by decide) rfl (lenOf pd_10 rfl) (Nat.le_of_ble_eq_true rfl) rfl at_70 (by decide) (by decide) (fun T329 h329 v329 X329 hQ329 => ?_)
  obtain ⟨rfl, a4_329, n_329, hn329, DD329, BB329, ex329, if329⟩ := hQ329
  show Go p e below s n0 _ _ _ (T329.setTop (mkF m 73 #[.val (.int xc), .val (.int xg), .val (.int xl), .val (.int ca), .val (.int cp.toInt32), .val (.int cu.toInt32), .val (.int lz), .val (.ref b323), .val (.ref a4_325), .unset, .unset, .unset] []))
  refine Go.st (fun _ => XS.aload X329.here C.hx rfl (hb C.hby at_73) rfl rfl) ?_
  show Go p e below s n0 _ _ _ (T329.setTop (mkF m 75 #[.val (.int xc), .val (.int xg), .val (.int xl), .val (.int ca), .val (.int cp.toInt32), .val (.int cu.toInt32), .val (.int lz), .val (.ref b323), .val (.ref a4_325), .unset, .unset, .unset] [(.ref b323)]))
  refine Go.callV C X329 (W := 0) (argsL := []) (rest := []) (a := b323) (BB329).1 (wd 57 rfl) (wd 58 rfl) (wd 60 rfl) (wd 59 rfl) (wd 6 rfl) (wd 61 rfl) (by decide) rfl (con_bytes l Z a0 hw n0 h329 X329.size b323 a1_324 a2_324 a4_329 cp n_329 0 0 B326 F327 BB329) (by decide) (by decide) rfl (lenOf pd_9 rfl) (Nat.le_of_ble_eq_true rfl) rfl at_75 (by decide) (by decide) (fun T330 h330 v330 X330 hQ330 => ?_)
  obtain ⟨rfl, hh330⟩ := hQ330
  rw [hh330] at X330
  show Go p e below s n0 _ _ _ (T330.setTop (mkF m 78 #[.val (.int xc), .val (.int xg), .val (.int xl), .val (.int ca), .val (.int cp.toInt32), .val (.int cu.toInt32), .val (.int lz), .val (.ref b323), .val (.ref a4_325), .unset, .unset, .unset] [(.ref a4_329)]))
  refine Go.st (fun _ => XS.astore X330.here C.hx rfl (hb C.hby at_78) rfl rfl (l' := #[.val (.int xc), .val (.int xg), .val (.int xl), .val (.int ca), .val (.int cp.toInt32), .val (.int cu.toInt32), .val (.int lz), .val (.ref b323), .val (.ref a4_325), .val (.ref a4_329), .unset, .unset]) rfl) ?_
  show Go p e below s n0 _ _ _ (T330.setTop (mkF m 80 #[.val (.int xc), .val (.int xg), .val (.int xl), .val (.int ca), .val (.int cp.toInt32), .val (.int cu.toInt32), .val (.int lz), .val (.ref b323), .val (.ref a4_325), .val (.ref a4_329), .unset, .unset] []))
  refine Go.st (fun _ => XS.iload X330.here C.hx rfl (hb C.hby at_80) rfl) ?_
  show Go p e below s n0 _ _ _ (T330.setTop (mkF m 82 #[.val (.int xc), .val (.int xg), .val (.int xl), .val (.int ca), .val (.int cp.toInt32), .val (.int cu.toInt32), .val (.int lz), .val (.ref b323), .val (.ref a4_325), .val (.ref a4_329), .unset, .unset] [(.int cu.toInt32)]))
  refine Go.st (fun _ => XS.iload X330.here C.hx rfl (hb C.hby at_82) rfl) ?_
  show Go p e below s n0 _ _ _ (T330.setTop (mkF m 84 #[.val (.int xc), .val (.int xg), .val (.int xl), .val (.int ca), .val (.int cp.toInt32), .val (.int cu.toInt32), .val (.int lz), .val (.ref b323), .val (.ref a4_325), .val (.ref a4_329), .unset, .unset] [(.int lz), (.int cu.toInt32)]))
  refine Go.icmp_ge C X330 (pc' := 94) at_84 (by decide) (by decide) (fun hc84_331 => ?_) (fun hc84_331 => ?_)
  · show Go p e below s n0 _ _ _ (T330.setTop (mkF m 94 #[.val (.int xc), .val (.int xg), .val (.int xl), .val (.int ca), .val (.int cp.toInt32), .val (.int cu.toInt32), .val (.int lz), .val (.ref b323), .val (.ref a4_325), .val (.ref a4_329), .unset, .unset] []))
    refine Go.st (fun _ => XS.iload X330.here C.hx rfl (hb C.hby at_94) rfl) ?_
    show Go p e below s n0 _ _ _ (T330.setTop (mkF m 96 #[.val (.int xc), .val (.int xg), .val (.int xl), .val (.int ca), .val (.int cp.toInt32), .val (.int cu.toInt32), .val (.int lz), .val (.ref b323), .val (.ref a4_325), .val (.ref a4_329), .unset, .unset] [(.int cu.toInt32)]))
    refine Go.st (fun _ => XS.iload X330.here C.hx rfl (hb C.hby at_96) rfl) ?_
    show Go p e below s n0 _ _ _ (T330.setTop (mkF m 98 #[.val (.int xc), .val (.int xg), .val (.int xl), .val (.int ca), .val (.int cp.toInt32), .val (.int cu.toInt32), .val (.int lz), .val (.ref b323), .val (.ref a4_325), .val (.ref a4_329), .unset, .unset] [(.int cp.toInt32), (.int cu.toInt32)]))
    refine Go.icmp_le C X330 (pc' := 115) at_98 (by decide) (by decide) (fun hc98_332 => ?_) (fun hc98_332 => ?_)
    · show Go p e below s n0 _ _ _ (T330.setTop (mkF m 115 #[.val (.int xc), .val (.int xg), .val (.int xl), .val (.int ca), .val (.int cp.toInt32), .val (.int cu.toInt32), .val (.int lz), .val (.ref b323), .val (.ref a4_325), .val (.ref a4_329), .unset, .unset] []))
      refine Go.st (fun _ => XS.iload X330.here C.hx rfl (hb C.hby at_115) rfl) ?_
      show Go p e below s n0 _ _ _ (T330.setTop (mkF m 117 #[.val (.int xc), .val (.int xg), .val (.int xl), .val (.int ca), .val (.int cp.toInt32), .val (.int cu.toInt32), .val (.int lz), .val (.ref b323), .val (.ref a4_325), .val (.ref a4_329), .unset, .unset] [(.int cu.toInt32)]))
      refine Go.st (fun _ => XS.istore X330.here C.hx rfl (hb C.hby at_117) rfl (l' := #[.val (.int xc), .val (.int xg), .val (.int xl), .val (.int ca), .val (.int cp.toInt32), .val (.int cu.toInt32), .val (.int lz), .val (.ref b323), .val (.ref a4_325), .val (.ref a4_329), .val (.int cu.toInt32), .unset]) rfl) ?_
      show Go p e below s n0 _ _ _ (T330.setTop (mkF m 119 #[.val (.int xc), .val (.int xg), .val (.int xl), .val (.int ca), .val (.int cp.toInt32), .val (.int cu.toInt32), .val (.int lz), .val (.ref b323), .val (.ref a4_325), .val (.ref a4_329), .val (.int cu.toInt32), .unset] []))
      refine Go.st (fun _ => XS.aload X330.here C.hx rfl (hb C.hby at_119) rfl rfl) ?_
      show Go p e below s n0 _ _ _ (T330.setTop (mkF m 121 #[.val (.int xc), .val (.int xg), .val (.int xl), .val (.int ca), .val (.int cp.toInt32), .val (.int cu.toInt32), .val (.int lz), .val (.ref b323), .val (.ref a4_325), .val (.ref a4_329), .val (.int cu.toInt32), .unset] [(.ref a4_329)]))
      refine Go.alen C X330 (BB329).2.2.2.2.2.2.2.2.2.1 (z := n_329.toInt32) (by unfold Z0L; rw [List.length_replicate]) at_121 ?_
      show Go p e below s n0 _ _ _ (T330.setTop (mkF m 122 #[.val (.int xc), .val (.int xg), .val (.int xl), .val (.int ca), .val (.int cp.toInt32), .val (.int cu.toInt32), .val (.int lz), .val (.ref b323), .val (.ref a4_325), .val (.ref a4_329), .val (.int cu.toInt32), .unset] [(.int n_329.toInt32)]))
      refine Go.st (fun _ => XS.iload X330.here C.hx rfl (hb C.hby at_122) rfl) ?_
      show Go p e below s n0 _ _ _ (T330.setTop (mkF m 124 #[.val (.int xc), .val (.int xg), .val (.int xl), .val (.int ca), .val (.int cp.toInt32), .val (.int cu.toInt32), .val (.int lz), .val (.ref b323), .val (.ref a4_325), .val (.ref a4_329), .val (.int cu.toInt32), .unset] [(.int cu.toInt32), (.int n_329.toInt32)]))
      refine Go.icmp_ne C X330 (pc' := 158) at_124 (by decide) (by decide) (fun hc => by first | exact absurd hc (show n_329.toInt32 = cu.toInt32 from by rw [ex329]; simp [hc84_331, hc98_332]) | exact absurd (show n_329.toInt32 = cu.toInt32 from by rw [ex329]; simp [hc84_331, hc98_332]) hc) (fun _ => ?_)
      show Go p e below s n0 _ _ _ (T330.setTop (mkF m 127 #[.val (.int xc), .val (.int xg), .val (.int xl), .val (.int ca), .val (.int cp.toInt32), .val (.int cu.toInt32), .val (.int lz), .val (.ref b323), .val (.ref a4_325), .val (.ref a4_329), .val (.int cu.toInt32), .unset] []))
      refine Go.st (fun _ => XS.aload X330.here C.hx rfl (hb C.hby at_127) rfl rfl) ?_
      show Go p e below s n0 _ _ _ (T330.setTop (mkF m 129 #[.val (.int xc), .val (.int xg), .val (.int xl), .val (.int ca), .val (.int cp.toInt32), .val (.int cu.toInt32), .val (.int lz), .val (.ref b323), .val (.ref a4_325), .val (.ref a4_329), .val (.int cu.toInt32), .unset] [(.ref a4_329)]))
      refine Go.st (fun _ => XS.aload X330.here C.hx rfl (hb C.hby at_129) rfl rfl) ?_
      show Go p e below s n0 _ _ _ (T330.setTop (mkF m 131 #[.val (.int xc), .val (.int xg), .val (.int xl), .val (.int ca), .val (.int cp.toInt32), .val (.int cu.toInt32), .val (.int lz), .val (.ref b323), .val (.ref a4_325), .val (.ref a4_329), .val (.int cu.toInt32), .unset] [(.ref a4_325), (.ref a4_329)]))
      refine Go.acmp_ne C X330 (pc' := 138) rfl rfl at_131 (by decide) (by decide) (fun hc131_334 => ?_) (fun hc131_334 => ?_)
      · show Go p e below s n0 _ _ _ (T330.setTop (mkF m 138 #[.val (.int xc), .val (.int xg), .val (.int xl), .val (.int ca), .val (.int cp.toInt32), .val (.int cu.toInt32), .val (.int lz), .val (.ref b323), .val (.ref a4_325), .val (.ref a4_329), .val (.int cu.toInt32), .unset] []))
        refine Go.st (fun _ => XS.iconst X330.here C.hx rfl (hb C.hby at_138)) ?_
        show Go p e below s n0 _ _ _ (T330.setTop (mkF m 139 #[.val (.int xc), .val (.int xg), .val (.int xl), .val (.int ca), .val (.int cp.toInt32), .val (.int cu.toInt32), .val (.int lz), .val (.ref b323), .val (.ref a4_325), .val (.ref a4_329), .val (.int cu.toInt32), .unset] [(.int (0 : Int32))]))
        refine Go.st (fun _ => XS.iload X330.here C.hx rfl (hb C.hby at_139) rfl) ?_
        show Go p e below s n0 _ _ _ (T330.setTop (mkF m 141 #[.val (.int xc), .val (.int xg), .val (.int xl), .val (.int ca), .val (.int cp.toInt32), .val (.int cu.toInt32), .val (.int lz), .val (.ref b323), .val (.ref a4_325), .val (.ref a4_329), .val (.int cu.toInt32), .unset] [(.int cu.toInt32), (.int (0 : Int32))]))
        refine Go.st (fun _ => XS.iload X330.here C.hx rfl (hb C.hby at_141) rfl) ?_
        show Go p e below s n0 _ _ _ (T330.setTop (mkF m 143 #[.val (.int xc), .val (.int xg), .val (.int xl), .val (.int ca), .val (.int cp.toInt32), .val (.int cu.toInt32), .val (.int lz), .val (.ref b323), .val (.ref a4_325), .val (.ref a4_329), .val (.int cu.toInt32), .unset] [(.int cu.toInt32), (.int cu.toInt32), (.int (0 : Int32))]))
        refine Go.icmp_ne C X330 (pc' := 150) at_143 (by decide) (by decide) (fun hc => by first | exact absurd hc rfl | exact absurd rfl hc) (fun _ => ?_)
        show Go p e below s n0 _ _ _ (T330.setTop (mkF m 146 #[.val (.int xc), .val (.int xg), .val (.int xl), .val (.int ca), .val (.int cp.toInt32), .val (.int cu.toInt32), .val (.int lz), .val (.ref b323), .val (.ref a4_325), .val (.ref a4_329), .val (.int cu.toInt32), .unset] [(.int (0 : Int32))]))
        refine Go.st (fun _ => XS.iconst X330.here C.hx rfl (hb C.hby at_146)) ?_
        show Go p e below s n0 _ _ _ (T330.setTop (mkF m 147 #[.val (.int xc), .val (.int xg), .val (.int xl), .val (.int ca), .val (.int cp.toInt32), .val (.int cu.toInt32), .val (.int lz), .val (.ref b323), .val (.ref a4_325), .val (.ref a4_329), .val (.int cu.toInt32), .unset] [(.int (1 : Int32)), (.int (0 : Int32))]))
        refine Go.st (fun _ => XS.goto X330.here C.hx rfl (pc0 := 147) (pc' := 151) rfl (hb C.hby at_147) (by decide) (by decide)) ?_
        exfalso
        have e1 : n_329.toInt32 = cu.toInt32 := by rw [ex329]; simp [hc84_331, hc98_332]
        exact hc131_334 (congrArg Value.ref ((if329).mpr ((eqI (by omega) (by omega)).mp (e1.trans rfl))))
      · show Go p e below s n0 _ _ _ (T330.setTop (mkF m 134 #[.val (.int xc), .val (.int xg), .val (.int xl), .val (.int ca), .val (.int cp.toInt32), .val (.int cu.toInt32), .val (.int lz), .val (.ref b323), .val (.ref a4_325), .val (.ref a4_329), .val (.int cu.toInt32), .unset] []))
        refine Go.st (fun _ => XS.iconst X330.here C.hx rfl (hb C.hby at_134)) ?_
        show Go p e below s n0 _ _ _ (T330.setTop (mkF m 135 #[.val (.int xc), .val (.int xg), .val (.int xl), .val (.int ca), .val (.int cp.toInt32), .val (.int cu.toInt32), .val (.int lz), .val (.ref b323), .val (.ref a4_325), .val (.ref a4_329), .val (.int cu.toInt32), .unset] [(.int (1 : Int32))]))
        refine Go.st (fun _ => XS.goto X330.here C.hx rfl (pc0 := 135) (pc' := 139) rfl (hb C.hby at_135) (by decide) (by decide)) ?_
        show Go p e below s n0 _ _ _ (T330.setTop (mkF m 139 #[.val (.int xc), .val (.int xg), .val (.int xl), .val (.int ca), .val (.int cp.toInt32), .val (.int cu.toInt32), .val (.int lz), .val (.ref b323), .val (.ref a4_325), .val (.ref a4_329), .val (.int cu.toInt32), .unset] [(.int (1 : Int32))]))
        refine Go.st (fun _ => XS.iload X330.here C.hx rfl (hb C.hby at_139) rfl) ?_
        show Go p e below s n0 _ _ _ (T330.setTop (mkF m 141 #[.val (.int xc), .val (.int xg), .val (.int xl), .val (.int ca), .val (.int cp.toInt32), .val (.int cu.toInt32), .val (.int lz), .val (.ref b323), .val (.ref a4_325), .val (.ref a4_329), .val (.int cu.toInt32), .unset] [(.int cu.toInt32), (.int (1 : Int32))]))
        refine Go.st (fun _ => XS.iload X330.here C.hx rfl (hb C.hby at_141) rfl) ?_
        show Go p e below s n0 _ _ _ (T330.setTop (mkF m 143 #[.val (.int xc), .val (.int xg), .val (.int xl), .val (.int ca), .val (.int cp.toInt32), .val (.int cu.toInt32), .val (.int lz), .val (.ref b323), .val (.ref a4_325), .val (.ref a4_329), .val (.int cu.toInt32), .unset] [(.int cu.toInt32), (.int cu.toInt32), (.int (1 : Int32))]))
        refine Go.icmp_ne C X330 (pc' := 150) at_143 (by decide) (by decide) (fun hc => by first | exact absurd hc rfl | exact absurd rfl hc) (fun _ => ?_)
        show Go p e below s n0 _ _ _ (T330.setTop (mkF m 146 #[.val (.int xc), .val (.int xg), .val (.int xl), .val (.int ca), .val (.int cp.toInt32), .val (.int cu.toInt32), .val (.int lz), .val (.ref b323), .val (.ref a4_325), .val (.ref a4_329), .val (.int cu.toInt32), .unset] [(.int (1 : Int32))]))
        refine Go.st (fun _ => XS.iconst X330.here C.hx rfl (hb C.hby at_146)) ?_
        show Go p e below s n0 _ _ _ (T330.setTop (mkF m 147 #[.val (.int xc), .val (.int xg), .val (.int xl), .val (.int ca), .val (.int cp.toInt32), .val (.int cu.toInt32), .val (.int lz), .val (.ref b323), .val (.ref a4_325), .val (.ref a4_329), .val (.int cu.toInt32), .unset] [(.int (1 : Int32)), (.int (1 : Int32))]))
        refine Go.st (fun _ => XS.goto X330.here C.hx rfl (pc0 := 147) (pc' := 151) rfl (hb C.hby at_147) (by decide) (by decide)) ?_
        show Go p e below s n0 _ _ _ (T330.setTop (mkF m 151 #[.val (.int xc), .val (.int xg), .val (.int xl), .val (.int ca), .val (.int cp.toInt32), .val (.int cu.toInt32), .val (.int lz), .val (.ref b323), .val (.ref a4_325), .val (.ref a4_329), .val (.int cu.toInt32), .unset] [(.int (1 : Int32)), (.int (1 : Int32))]))
        refine Go.icmp_ne C X330 (pc' := 158) at_151 (by decide) (by decide) (fun hc => absurd hc (by decide)) (fun _ => ?_)
        show Go p e below s n0 _ _ _ (T330.setTop (mkF m 154 #[.val (.int xc), .val (.int xg), .val (.int xl), .val (.int ca), .val (.int cp.toInt32), .val (.int cu.toInt32), .val (.int lz), .val (.ref b323), .val (.ref a4_325), .val (.ref a4_329), .val (.int cu.toInt32), .unset] []))
        refine Go.st (fun _ => XS.iconst X330.here C.hx rfl (hb C.hby at_154)) ?_
        show Go p e below s n0 _ _ _ (T330.setTop (mkF m 155 #[.val (.int xc), .val (.int xg), .val (.int xl), .val (.int ca), .val (.int cp.toInt32), .val (.int cu.toInt32), .val (.int lz), .val (.ref b323), .val (.ref a4_325), .val (.ref a4_329), .val (.int cu.toInt32), .unset] [(.int (1 : Int32))]))
        refine Go.st (fun _ => XS.goto X330.here C.hx rfl (pc0 := 155) (pc' := 159) rfl (hb C.hby at_155) (by decide) (by decide)) ?_
        show Go p e below s n0 _ _ _ (T330.setTop (mkF m 159 #[.val (.int xc), .val (.int xg), .val (.int xl), .val (.int ca), .val (.int cp.toInt32), .val (.int cu.toInt32), .val (.int lz), .val (.ref b323), .val (.ref a4_325), .val (.ref a4_329), .val (.int cu.toInt32), .unset] [(.int (1 : Int32))]))
        refine Go.st (fun _ => XS.istore X330.here C.hx rfl (hb C.hby at_159) rfl (l' := #[.val (.int xc), .val (.int xg), .val (.int xl), .val (.int ca), .val (.int cp.toInt32), .val (.int cu.toInt32), .val (.int lz), .val (.ref b323), .val (.ref a4_325), .val (.ref a4_329), .val (.int cu.toInt32), .val (.int (1 : Int32))]) rfl) ?_
        show Go p e below s n0 _ _ _ (T330.setTop (mkF m 161 #[.val (.int xc), .val (.int xg), .val (.int xl), .val (.int ca), .val (.int cp.toInt32), .val (.int cu.toInt32), .val (.int lz), .val (.ref b323), .val (.ref a4_325), .val (.ref a4_329), .val (.int cu.toInt32), .val (.int (1 : Int32))] []))
        refine Go.st (fun _ => XS.iload X330.here C.hx rfl (hb C.hby at_161) rfl) ?_
        show Go p e below s n0 _ _ _ (T330.setTop (mkF m 163 #[.val (.int xc), .val (.int xg), .val (.int xl), .val (.int ca), .val (.int cp.toInt32), .val (.int cu.toInt32), .val (.int lz), .val (.ref b323), .val (.ref a4_325), .val (.ref a4_329), .val (.int cu.toInt32), .val (.int (1 : Int32))] [(.int (1 : Int32))]))
        refine Go.if_eq C X330 (pc' := 178) at_163 (by decide) (by decide) (fun hc => absurd hc (by decide)) (fun _ => ?_)
        show Go p e below s n0 _ _ _ (T330.setTop (mkF m 166 #[.val (.int xc), .val (.int xg), .val (.int xl), .val (.int ca), .val (.int cp.toInt32), .val (.int cu.toInt32), .val (.int lz), .val (.ref b323), .val (.ref a4_325), .val (.ref a4_329), .val (.int cu.toInt32), .val (.int (1 : Int32))] []))
        refine Go.st (fun _ => XS.aload X330.here C.hx rfl (hb C.hby at_166) rfl rfl) ?_
        show Go p e below s n0 _ _ _ (T330.setTop (mkF m 168 #[.val (.int xc), .val (.int xg), .val (.int xl), .val (.int ca), .val (.int cp.toInt32), .val (.int cu.toInt32), .val (.int lz), .val (.ref b323), .val (.ref a4_325), .val (.ref a4_329), .val (.int cu.toInt32), .val (.int (1 : Int32))] [(.ref b323)]))
        refine Go.callV C X330 (W := 0) (argsL := []) (rest := []) (a := b323) (BB329).1 (wd 67 rfl) (wd 68 rfl) (wd 70 rfl) (wd 69 rfl) (wd 6 rfl) (wd 71 rfl) (by decide) rfl (con_records l Z a0 hw n0 h329 X330.size b323 a1_324 a2_324 a4_329 cp n_329 0 0 B326 F327 BB329) (by decide) (by decide) rfl (lenOf pd_11 rfl) (Nat.le_of_ble_eq_true rfl) rfl at_168 (by decide) (by decide) (fun T339 h339 v339 X339 hQ339 => ?_)
        obtain ⟨rfl, hh339⟩ := hQ339
        rw [hh339] at X339
        show Go p e below s n0 _ _ _ (T339.setTop (mkF m 171 #[.val (.int xc), .val (.int xg), .val (.int xl), .val (.int ca), .val (.int cp.toInt32), .val (.int cu.toInt32), .val (.int lz), .val (.ref b323), .val (.ref a4_325), .val (.ref a4_329), .val (.int cu.toInt32), .val (.int (1 : Int32))] [(.int (0 : Int32))]))
        refine Go.if_ne C X339 (pc' := 178) at_171 (by decide) (by decide) (fun hc => absurd hc (by decide)) (fun _ => ?_)
        show Go p e below s n0 _ _ _ (T339.setTop (mkF m 174 #[.val (.int xc), .val (.int xg), .val (.int xl), .val (.int ca), .val (.int cp.toInt32), .val (.int cu.toInt32), .val (.int lz), .val (.ref b323), .val (.ref a4_325), .val (.ref a4_329), .val (.int cu.toInt32), .val (.int (1 : Int32))] []))
        refine Go.st (fun _ => XS.iconst X339.here C.hx rfl (hb C.hby at_174)) ?_
        show Go p e below s n0 _ _ _ (T339.setTop (mkF m 175 #[.val (.int xc), .val (.int xg), .val (.int xl), .val (.int ca), .val (.int cp.toInt32), .val (.int cu.toInt32), .val (.int lz), .val (.ref b323), .val (.ref a4_325), .val (.ref a4_329), .val (.int cu.toInt32), .val (.int (1 : Int32))] [(.int (1 : Int32))]))
        refine Go.st (fun _ => XS.goto X339.here C.hx rfl (pc0 := 175) (pc' := 179) rfl (hb C.hby at_175) (by decide) (by decide)) ?_
        show Go p e below s n0 _ _ _ (T339.setTop (mkF m 179 #[.val (.int xc), .val (.int xg), .val (.int xl), .val (.int ca), .val (.int cp.toInt32), .val (.int cu.toInt32), .val (.int lz), .val (.ref b323), .val (.ref a4_325), .val (.ref a4_329), .val (.int cu.toInt32), .val (.int (1 : Int32))] [(.int (1 : Int32))]))
        refine Go.st (fun _ => XS.istore X339.here C.hx rfl (hb C.hby at_179) rfl (l' := #[.val (.int xc), .val (.int xg), .val (.int xl), .val (.int ca), .val (.int cp.toInt32), .val (.int cu.toInt32), .val (.int lz), .val (.ref b323), .val (.ref a4_325), .val (.ref a4_329), .val (.int cu.toInt32), .val (.int (1 : Int32))]) rfl) ?_
        show Go p e below s n0 _ _ _ (T339.setTop (mkF m 181 #[.val (.int xc), .val (.int xg), .val (.int xl), .val (.int ca), .val (.int cp.toInt32), .val (.int cu.toInt32), .val (.int lz), .val (.ref b323), .val (.ref a4_325), .val (.ref a4_329), .val (.int cu.toInt32), .val (.int (1 : Int32))] []))
        refine Go.st (fun _ => XS.aload X339.here C.hx rfl (hb C.hby at_181) rfl rfl) ?_
        show Go p e below s n0 _ _ _ (T339.setTop (mkF m 183 #[.val (.int xc), .val (.int xg), .val (.int xl), .val (.int ca), .val (.int cp.toInt32), .val (.int cu.toInt32), .val (.int lz), .val (.ref b323), .val (.ref a4_325), .val (.ref a4_329), .val (.int cu.toInt32), .val (.int (1 : Int32))] [(.ref b323)]))
        refine Go.st (fun _ => XS.iconst X339.here C.hx rfl (hb C.hby at_183)) ?_
        show Go p e below s n0 _ _ _ (T339.setTop (mkF m 184 #[.val (.int xc), .val (.int xg), .val (.int xl), .val (.int ca), .val (.int cp.toInt32), .val (.int cu.toInt32), .val (.int lz), .val (.ref b323), .val (.ref a4_325), .val (.ref a4_329), .val (.int cu.toInt32), .val (.int (1 : Int32))] [(.int (3 : Int32)), (.ref b323)]))
        refine Go.st (fun _ => XS.iconst X339.here C.hx rfl (hb C.hby at_184)) ?_
        show Go p e below s n0 _ _ _ (T339.setTop (mkF m 185 #[.val (.int xc), .val (.int xg), .val (.int xl), .val (.int ca), .val (.int cp.toInt32), .val (.int cu.toInt32), .val (.int lz), .val (.ref b323), .val (.ref a4_325), .val (.ref a4_329), .val (.int cu.toInt32), .val (.int (1 : Int32))] [(.int (5 : Int32)), (.int (3 : Int32)), (.ref b323)]))
        refine Go.callV C X339 (W := 0) (argsL := [(.int (3 : Int32)), (.int (5 : Int32))]) (rest := []) (a := b323) (BB329).1 (wd 43 rfl) (wd 44 rfl) (wd 46 rfl) (wd 45 rfl) (wd 6 rfl) (wd 47 rfl) (by decide) rfl (con_add l Z a0 hw n0 h329 X339.size b323 a1_324 a2_324 a4_329 cp n_329 (3 : Int32) (5 : Int32) 0 B326 F327 DD329 BB329) (by decide) (by decide) rfl (lenOf pd_7 rfl) (Nat.le_of_ble_eq_true rfl) rfl at_185 (by decide) (by decide) (fun T341 h341 v341 X341 hQ341 => ?_)
        obtain ⟨rfl, B341, BB341⟩ := hQ341
        show Go p e below s n0 _ _ _ (T341.setTop (mkF m 188 #[.val (.int xc), .val (.int xg), .val (.int xl), .val (.int ca), .val (.int cp.toInt32), .val (.int cu.toInt32), .val (.int lz), .val (.ref b323), .val (.ref a4_325), .val (.ref a4_329), .val (.int cu.toInt32), .val (.int (1 : Int32))] []))
        refine Go.st (fun _ => XS.aload X341.here C.hx rfl (hb C.hby at_188) rfl rfl) ?_
        show Go p e below s n0 _ _ _ (T341.setTop (mkF m 190 #[.val (.int xc), .val (.int xg), .val (.int xl), .val (.int ca), .val (.int cp.toInt32), .val (.int cu.toInt32), .val (.int lz), .val (.ref b323), .val (.ref a4_325), .val (.ref a4_329), .val (.int cu.toInt32), .val (.int (1 : Int32))] [(.ref b323)]))
        refine Go.callV C X341 (W := 0) (argsL := []) (rest := []) (a := b323) (BB341).1 (wd 50 rfl) (wd 51 rfl) (wd 53 rfl) (wd 52 rfl) (wd 6 rfl) (wd 54 rfl) (by decide) rfl (con_end l Z a0 hw n0 h341 X341.size b323 a1_324 a2_324 a4_329 cp n_329 B341 F327 DD329 BB341) (by decide) (by decide) rfl (lenOf pd_8 rfl) (Nat.le_of_ble_eq_true rfl) rfl at_190 (by decide) (by decide) (fun T342 h342 v342 X342 hQ342 => ?_)
        obtain ⟨rfl, F342, BB342⟩ := hQ342
        show Go p e below s n0 _ _ _ (T342.setTop (mkF m 193 #[.val (.int xc), .val (.int xg), .val (.int xl), .val (.int ca), .val (.int cp.toInt32), .val (.int cu.toInt32), .val (.int lz), .val (.ref b323), .val (.ref a4_325), .val (.ref a4_329), .val (.int cu.toInt32), .val (.int (1 : Int32))] []))
        refine Go.st (fun _ => XS.iload X342.here C.hx rfl (hb C.hby at_193) rfl) ?_
        show Go p e below s n0 _ _ _ (T342.setTop (mkF m 195 #[.val (.int xc), .val (.int xg), .val (.int xl), .val (.int ca), .val (.int cp.toInt32), .val (.int cu.toInt32), .val (.int lz), .val (.ref b323), .val (.ref a4_325), .val (.ref a4_329), .val (.int cu.toInt32), .val (.int (1 : Int32))] [(.int (1 : Int32))]))
        refine Go.if_eq C X342 (pc' := 212) at_195 (by decide) (by decide) (fun hc => absurd hc (by decide)) (fun _ => ?_)
        show Go p e below s n0 _ _ _ (T342.setTop (mkF m 198 #[.val (.int xc), .val (.int xg), .val (.int xl), .val (.int ca), .val (.int cp.toInt32), .val (.int cu.toInt32), .val (.int lz), .val (.ref b323), .val (.ref a4_325), .val (.ref a4_329), .val (.int cu.toInt32), .val (.int (1 : Int32))] []))
        refine Go.st (fun _ => XS.aload X342.here C.hx rfl (hb C.hby at_198) rfl rfl) ?_
        show Go p e below s n0 _ _ _ (T342.setTop (mkF m 200 #[.val (.int xc), .val (.int xg), .val (.int xl), .val (.int ca), .val (.int cp.toInt32), .val (.int cu.toInt32), .val (.int lz), .val (.ref b323), .val (.ref a4_325), .val (.ref a4_329), .val (.int cu.toInt32), .val (.int (1 : Int32))] [(.ref b323)]))
        refine Go.st (fun _ => XS.iconst X342.here C.hx rfl (hb C.hby at_200)) ?_
        show Go p e below s n0 _ _ _ (T342.setTop (mkF m 201 #[.val (.int xc), .val (.int xg), .val (.int xl), .val (.int ca), .val (.int cp.toInt32), .val (.int cu.toInt32), .val (.int lz), .val (.ref b323), .val (.ref a4_325), .val (.ref a4_329), .val (.int cu.toInt32), .val (.int (1 : Int32))] [(.int (0 : Int32)), (.ref b323)]))
        refine Go.callV C X342 (W := 0) (argsL := [(.int (0 : Int32))]) (rest := []) (a := b323) (BB342).1 (wd 72 rfl) (wd 73 rfl) (wd 75 rfl) (wd 74 rfl) (wd 6 rfl) (wd 76 rfl) (by decide) rfl (con_fields l Z a0 hw n0 h342 X342.size b323 a1_324 a2_324 a4_329 cp n_329 1 B341 F342 BB342) (by decide) (by decide) rfl (lenOf pd_12 rfl) (Nat.le_of_ble_eq_true rfl) rfl at_201 (by decide) (by decide) (fun T344 h344 v344 X344 hQ344 => ?_)
        obtain ⟨rfl, hh344⟩ := hQ344
        rw [hh344] at X344
        show Go p e below s n0 _ _ _ (T344.setTop (mkF m 204 #[.val (.int xc), .val (.int xg), .val (.int xl), .val (.int ca), .val (.int cp.toInt32), .val (.int cu.toInt32), .val (.int lz), .val (.ref b323), .val (.ref a4_325), .val (.ref a4_329), .val (.int cu.toInt32), .val (.int (1 : Int32))] [(.int (1 : Int32))]))
        refine Go.st (fun _ => XS.iconst X344.here C.hx rfl (hb C.hby at_204)) ?_
        show Go p e below s n0 _ _ _ (T344.setTop (mkF m 205 #[.val (.int xc), .val (.int xg), .val (.int xl), .val (.int ca), .val (.int cp.toInt32), .val (.int cu.toInt32), .val (.int lz), .val (.ref b323), .val (.ref a4_325), .val (.ref a4_329), .val (.int cu.toInt32), .val (.int (1 : Int32))] [(.int (1 : Int32)), (.int (1 : Int32))]))
        refine Go.icmp_ne C X344 (pc' := 212) at_205 (by decide) (by decide) (fun hc => absurd hc (by decide)) (fun _ => ?_)
        show Go p e below s n0 _ _ _ (T344.setTop (mkF m 208 #[.val (.int xc), .val (.int xg), .val (.int xl), .val (.int ca), .val (.int cp.toInt32), .val (.int cu.toInt32), .val (.int lz), .val (.ref b323), .val (.ref a4_325), .val (.ref a4_329), .val (.int cu.toInt32), .val (.int (1 : Int32))] []))
        refine Go.st (fun _ => XS.iconst X344.here C.hx rfl (hb C.hby at_208)) ?_
        show Go p e below s n0 _ _ _ (T344.setTop (mkF m 209 #[.val (.int xc), .val (.int xg), .val (.int xl), .val (.int ca), .val (.int cp.toInt32), .val (.int cu.toInt32), .val (.int lz), .val (.ref b323), .val (.ref a4_325), .val (.ref a4_329), .val (.int cu.toInt32), .val (.int (1 : Int32))] [(.int (1 : Int32))]))
        refine Go.st (fun _ => XS.goto X344.here C.hx rfl (pc0 := 209) (pc' := 213) rfl (hb C.hby at_209) (by decide) (by decide)) ?_
        show Go p e below s n0 _ _ _ (T344.setTop (mkF m 213 #[.val (.int xc), .val (.int xg), .val (.int xl), .val (.int ca), .val (.int cp.toInt32), .val (.int cu.toInt32), .val (.int lz), .val (.ref b323), .val (.ref a4_325), .val (.ref a4_329), .val (.int cu.toInt32), .val (.int (1 : Int32))] [(.int (1 : Int32))]))
        exact Go.retZ C X344 (by decide) at_213 rfl (by decide) (by decide)
    · show Go p e below s n0 _ _ _ (T330.setTop (mkF m 101 #[.val (.int xc), .val (.int xg), .val (.int xl), .val (.int ca), .val (.int cp.toInt32), .val (.int cu.toInt32), .val (.int lz), .val (.ref b323), .val (.ref a4_325), .val (.ref a4_329), .unset, .unset] []))
      refine Go.st (fun _ => XS.iload X330.here C.hx rfl (hb C.hby at_101) rfl) ?_
      show Go p e below s n0 _ _ _ (T330.setTop (mkF m 103 #[.val (.int xc), .val (.int xg), .val (.int xl), .val (.int ca), .val (.int cp.toInt32), .val (.int cu.toInt32), .val (.int lz), .val (.ref b323), .val (.ref a4_325), .val (.ref a4_329), .unset, .unset] [(.int lz)]))
      refine Go.st (fun _ => XS.iload X330.here C.hx rfl (hb C.hby at_103) rfl) ?_
      show Go p e below s n0 _ _ _ (T330.setTop (mkF m 105 #[.val (.int xc), .val (.int xg), .val (.int xl), .val (.int ca), .val (.int cp.toInt32), .val (.int cu.toInt32), .val (.int lz), .val (.ref b323), .val (.ref a4_325), .val (.ref a4_329), .unset, .unset] [(.int cp.toInt32), (.int lz)]))
      refine Go.icmp_gt C X330 (pc' := 115) at_105 (by decide) (by decide) (fun hc105_346 => ?_) (fun hc105_346 => ?_)
      · show Go p e below s n0 _ _ _ (T330.setTop (mkF m 115 #[.val (.int xc), .val (.int xg), .val (.int xl), .val (.int ca), .val (.int cp.toInt32), .val (.int cu.toInt32), .val (.int lz), .val (.ref b323), .val (.ref a4_325), .val (.ref a4_329), .unset, .unset] []))
        refine Go.st (fun _ => XS.iload X330.here C.hx rfl (hb C.hby at_115) rfl) ?_
        show Go p e below s n0 _ _ _ (T330.setTop (mkF m 117 #[.val (.int xc), .val (.int xg), .val (.int xl), .val (.int ca), .val (.int cp.toInt32), .val (.int cu.toInt32), .val (.int lz), .val (.ref b323), .val (.ref a4_325), .val (.ref a4_329), .unset, .unset] [(.int cu.toInt32)]))
        refine Go.st (fun _ => XS.istore X330.here C.hx rfl (hb C.hby at_117) rfl (l' := #[.val (.int xc), .val (.int xg), .val (.int xl), .val (.int ca), .val (.int cp.toInt32), .val (.int cu.toInt32), .val (.int lz), .val (.ref b323), .val (.ref a4_325), .val (.ref a4_329), .val (.int cu.toInt32), .unset]) rfl) ?_
        show Go p e below s n0 _ _ _ (T330.setTop (mkF m 119 #[.val (.int xc), .val (.int xg), .val (.int xl), .val (.int ca), .val (.int cp.toInt32), .val (.int cu.toInt32), .val (.int lz), .val (.ref b323), .val (.ref a4_325), .val (.ref a4_329), .val (.int cu.toInt32), .unset] []))
        refine Go.st (fun _ => XS.aload X330.here C.hx rfl (hb C.hby at_119) rfl rfl) ?_
        show Go p e below s n0 _ _ _ (T330.setTop (mkF m 121 #[.val (.int xc), .val (.int xg), .val (.int xl), .val (.int ca), .val (.int cp.toInt32), .val (.int cu.toInt32), .val (.int lz), .val (.ref b323), .val (.ref a4_325), .val (.ref a4_329), .val (.int cu.toInt32), .unset] [(.ref a4_329)]))
        refine Go.alen C X330 (BB329).2.2.2.2.2.2.2.2.2.1 (z := n_329.toInt32) (by unfold Z0L; rw [List.length_replicate]) at_121 ?_
        show Go p e below s n0 _ _ _ (T330.setTop (mkF m 122 #[.val (.int xc), .val (.int xg), .val (.int xl), .val (.int ca), .val (.int cp.toInt32), .val (.int cu.toInt32), .val (.int lz), .val (.ref b323), .val (.ref a4_325), .val (.ref a4_329), .val (.int cu.toInt32), .unset] [(.int n_329.toInt32)]))
        refine Go.st (fun _ => XS.iload X330.here C.hx rfl (hb C.hby at_122) rfl) ?_
        show Go p e below s n0 _ _ _ (T330.setTop (mkF m 124 #[.val (.int xc), .val (.int xg), .val (.int xl), .val (.int ca), .val (.int cp.toInt32), .val (.int cu.toInt32), .val (.int lz), .val (.ref b323), .val (.ref a4_325), .val (.ref a4_329), .val (.int cu.toInt32), .unset] [(.int cu.toInt32), (.int n_329.toInt32)]))
        refine Go.icmp_ne C X330 (pc' := 158) at_124 (by decide) (by decide) (fun hc => by first | exact absurd hc (show n_329.toInt32 = cu.toInt32 from by rw [ex329]; simp [hc84_331, hc98_332, hc105_346]) | exact absurd (show n_329.toInt32 = cu.toInt32 from by rw [ex329]; simp [hc84_331, hc98_332, hc105_346]) hc) (fun _ => ?_)
        show Go p e below s n0 _ _ _ (T330.setTop (mkF m 127 #[.val (.int xc), .val (.int xg), .val (.int xl), .val (.int ca), .val (.int cp.toInt32), .val (.int cu.toInt32), .val (.int lz), .val (.ref b323), .val (.ref a4_325), .val (.ref a4_329), .val (.int cu.toInt32), .unset] []))
        refine Go.st (fun _ => XS.aload X330.here C.hx rfl (hb C.hby at_127) rfl rfl) ?_
        show Go p e below s n0 _ _ _ (T330.setTop (mkF m 129 #[.val (.int xc), .val (.int xg), .val (.int xl), .val (.int ca), .val (.int cp.toInt32), .val (.int cu.toInt32), .val (.int lz), .val (.ref b323), .val (.ref a4_325), .val (.ref a4_329), .val (.int cu.toInt32), .unset] [(.ref a4_329)]))
        refine Go.st (fun _ => XS.aload X330.here C.hx rfl (hb C.hby at_129) rfl rfl) ?_
        show Go p e below s n0 _ _ _ (T330.setTop (mkF m 131 #[.val (.int xc), .val (.int xg), .val (.int xl), .val (.int ca), .val (.int cp.toInt32), .val (.int cu.toInt32), .val (.int lz), .val (.ref b323), .val (.ref a4_325), .val (.ref a4_329), .val (.int cu.toInt32), .unset] [(.ref a4_325), (.ref a4_329)]))
        refine Go.acmp_ne C X330 (pc' := 138) rfl rfl at_131 (by decide) (by decide) (fun hc131_348 => ?_) (fun hc131_348 => ?_)
        · show Go p e below s n0 _ _ _ (T330.setTop (mkF m 138 #[.val (.int xc), .val (.int xg), .val (.int xl), .val (.int ca), .val (.int cp.toInt32), .val (.int cu.toInt32), .val (.int lz), .val (.ref b323), .val (.ref a4_325), .val (.ref a4_329), .val (.int cu.toInt32), .unset] []))
          refine Go.st (fun _ => XS.iconst X330.here C.hx rfl (hb C.hby at_138)) ?_
          show Go p e below s n0 _ _ _ (T330.setTop (mkF m 139 #[.val (.int xc), .val (.int xg), .val (.int xl), .val (.int ca), .val (.int cp.toInt32), .val (.int cu.toInt32), .val (.int lz), .val (.ref b323), .val (.ref a4_325), .val (.ref a4_329), .val (.int cu.toInt32), .unset] [(.int (0 : Int32))]))
          refine Go.st (fun _ => XS.iload X330.here C.hx rfl (hb C.hby at_139) rfl) ?_
          show Go p e below s n0 _ _ _ (T330.setTop (mkF m 141 #[.val (.int xc), .val (.int xg), .val (.int xl), .val (.int ca), .val (.int cp.toInt32), .val (.int cu.toInt32), .val (.int lz), .val (.ref b323), .val (.ref a4_325), .val (.ref a4_329), .val (.int cu.toInt32), .unset] [(.int cu.toInt32), (.int (0 : Int32))]))
          refine Go.st (fun _ => XS.iload X330.here C.hx rfl (hb C.hby at_141) rfl) ?_
          show Go p e below s n0 _ _ _ (T330.setTop (mkF m 143 #[.val (.int xc), .val (.int xg), .val (.int xl), .val (.int ca), .val (.int cp.toInt32), .val (.int cu.toInt32), .val (.int lz), .val (.ref b323), .val (.ref a4_325), .val (.ref a4_329), .val (.int cu.toInt32), .unset] [(.int cu.toInt32), (.int cu.toInt32), (.int (0 : Int32))]))
          refine Go.icmp_ne C X330 (pc' := 150) at_143 (by decide) (by decide) (fun hc => by first | exact absurd hc rfl | exact absurd rfl hc) (fun _ => ?_)
          show Go p e below s n0 _ _ _ (T330.setTop (mkF m 146 #[.val (.int xc), .val (.int xg), .val (.int xl), .val (.int ca), .val (.int cp.toInt32), .val (.int cu.toInt32), .val (.int lz), .val (.ref b323), .val (.ref a4_325), .val (.ref a4_329), .val (.int cu.toInt32), .unset] [(.int (0 : Int32))]))
          refine Go.st (fun _ => XS.iconst X330.here C.hx rfl (hb C.hby at_146)) ?_
          show Go p e below s n0 _ _ _ (T330.setTop (mkF m 147 #[.val (.int xc), .val (.int xg), .val (.int xl), .val (.int ca), .val (.int cp.toInt32), .val (.int cu.toInt32), .val (.int lz), .val (.ref b323), .val (.ref a4_325), .val (.ref a4_329), .val (.int cu.toInt32), .unset] [(.int (1 : Int32)), (.int (0 : Int32))]))
          refine Go.st (fun _ => XS.goto X330.here C.hx rfl (pc0 := 147) (pc' := 151) rfl (hb C.hby at_147) (by decide) (by decide)) ?_
          exfalso
          have e1 : n_329.toInt32 = cu.toInt32 := by rw [ex329]; simp [hc84_331, hc98_332, hc105_346]
          exact hc131_348 (congrArg Value.ref ((if329).mpr ((eqI (by omega) (by omega)).mp (e1.trans rfl))))
        · show Go p e below s n0 _ _ _ (T330.setTop (mkF m 134 #[.val (.int xc), .val (.int xg), .val (.int xl), .val (.int ca), .val (.int cp.toInt32), .val (.int cu.toInt32), .val (.int lz), .val (.ref b323), .val (.ref a4_325), .val (.ref a4_329), .val (.int cu.toInt32), .unset] []))
          refine Go.st (fun _ => XS.iconst X330.here C.hx rfl (hb C.hby at_134)) ?_
          show Go p e below s n0 _ _ _ (T330.setTop (mkF m 135 #[.val (.int xc), .val (.int xg), .val (.int xl), .val (.int ca), .val (.int cp.toInt32), .val (.int cu.toInt32), .val (.int lz), .val (.ref b323), .val (.ref a4_325), .val (.ref a4_329), .val (.int cu.toInt32), .unset] [(.int (1 : Int32))]))
          refine Go.st (fun _ => XS.goto X330.here C.hx rfl (pc0 := 135) (pc' := 139) rfl (hb C.hby at_135) (by decide) (by decide)) ?_
          show Go p e below s n0 _ _ _ (T330.setTop (mkF m 139 #[.val (.int xc), .val (.int xg), .val (.int xl), .val (.int ca), .val (.int cp.toInt32), .val (.int cu.toInt32), .val (.int lz), .val (.ref b323), .val (.ref a4_325), .val (.ref a4_329), .val (.int cu.toInt32), .unset] [(.int (1 : Int32))]))
          refine Go.st (fun _ => XS.iload X330.here C.hx rfl (hb C.hby at_139) rfl) ?_
          show Go p e below s n0 _ _ _ (T330.setTop (mkF m 141 #[.val (.int xc), .val (.int xg), .val (.int xl), .val (.int ca), .val (.int cp.toInt32), .val (.int cu.toInt32), .val (.int lz), .val (.ref b323), .val (.ref a4_325), .val (.ref a4_329), .val (.int cu.toInt32), .unset] [(.int cu.toInt32), (.int (1 : Int32))]))
          refine Go.st (fun _ => XS.iload X330.here C.hx rfl (hb C.hby at_141) rfl) ?_
          show Go p e below s n0 _ _ _ (T330.setTop (mkF m 143 #[.val (.int xc), .val (.int xg), .val (.int xl), .val (.int ca), .val (.int cp.toInt32), .val (.int cu.toInt32), .val (.int lz), .val (.ref b323), .val (.ref a4_325), .val (.ref a4_329), .val (.int cu.toInt32), .unset] [(.int cu.toInt32), (.int cu.toInt32), (.int (1 : Int32))]))
          refine Go.icmp_ne C X330 (pc' := 150) at_143 (by decide) (by decide) (fun hc => by first | exact absurd hc rfl | exact absurd rfl hc) (fun _ => ?_)
          show Go p e below s n0 _ _ _ (T330.setTop (mkF m 146 #[.val (.int xc), .val (.int xg), .val (.int xl), .val (.int ca), .val (.int cp.toInt32), .val (.int cu.toInt32), .val (.int lz), .val (.ref b323), .val (.ref a4_325), .val (.ref a4_329), .val (.int cu.toInt32), .unset] [(.int (1 : Int32))]))
          refine Go.st (fun _ => XS.iconst X330.here C.hx rfl (hb C.hby at_146)) ?_
          show Go p e below s n0 _ _ _ (T330.setTop (mkF m 147 #[.val (.int xc), .val (.int xg), .val (.int xl), .val (.int ca), .val (.int cp.toInt32), .val (.int cu.toInt32), .val (.int lz), .val (.ref b323), .val (.ref a4_325), .val (.ref a4_329), .val (.int cu.toInt32), .unset] [(.int (1 : Int32)), (.int (1 : Int32))]))
          refine Go.st (fun _ => XS.goto X330.here C.hx rfl (pc0 := 147) (pc' := 151) rfl (hb C.hby at_147) (by decide) (by decide)) ?_
          show Go p e below s n0 _ _ _ (T330.setTop (mkF m 151 #[.val (.int xc), .val (.int xg), .val (.int xl), .val (.int ca), .val (.int cp.toInt32), .val (.int cu.toInt32), .val (.int lz), .val (.ref b323), .val (.ref a4_325), .val (.ref a4_329), .val (.int cu.toInt32), .unset] [(.int (1 : Int32)), (.int (1 : Int32))]))
          refine Go.icmp_ne C X330 (pc' := 158) at_151 (by decide) (by decide) (fun hc => absurd hc (by decide)) (fun _ => ?_)
          show Go p e below s n0 _ _ _ (T330.setTop (mkF m 154 #[.val (.int xc), .val (.int xg), .val (.int xl), .val (.int ca), .val (.int cp.toInt32), .val (.int cu.toInt32), .val (.int lz), .val (.ref b323), .val (.ref a4_325), .val (.ref a4_329), .val (.int cu.toInt32), .unset] []))
          refine Go.st (fun _ => XS.iconst X330.here C.hx rfl (hb C.hby at_154)) ?_
          show Go p e below s n0 _ _ _ (T330.setTop (mkF m 155 #[.val (.int xc), .val (.int xg), .val (.int xl), .val (.int ca), .val (.int cp.toInt32), .val (.int cu.toInt32), .val (.int lz), .val (.ref b323), .val (.ref a4_325), .val (.ref a4_329), .val (.int cu.toInt32), .unset] [(.int (1 : Int32))]))
          refine Go.st (fun _ => XS.goto X330.here C.hx rfl (pc0 := 155) (pc' := 159) rfl (hb C.hby at_155) (by decide) (by decide)) ?_
          show Go p e below s n0 _ _ _ (T330.setTop (mkF m 159 #[.val (.int xc), .val (.int xg), .val (.int xl), .val (.int ca), .val (.int cp.toInt32), .val (.int cu.toInt32), .val (.int lz), .val (.ref b323), .val (.ref a4_325), .val (.ref a4_329), .val (.int cu.toInt32), .unset] [(.int (1 : Int32))]))
          refine Go.st (fun _ => XS.istore X330.here C.hx rfl (hb C.hby at_159) rfl (l' := #[.val (.int xc), .val (.int xg), .val (.int xl), .val (.int ca), .val (.int cp.toInt32), .val (.int cu.toInt32), .val (.int lz), .val (.ref b323), .val (.ref a4_325), .val (.ref a4_329), .val (.int cu.toInt32), .val (.int (1 : Int32))]) rfl) ?_
          show Go p e below s n0 _ _ _ (T330.setTop (mkF m 161 #[.val (.int xc), .val (.int xg), .val (.int xl), .val (.int ca), .val (.int cp.toInt32), .val (.int cu.toInt32), .val (.int lz), .val (.ref b323), .val (.ref a4_325), .val (.ref a4_329), .val (.int cu.toInt32), .val (.int (1 : Int32))] []))
          refine Go.st (fun _ => XS.iload X330.here C.hx rfl (hb C.hby at_161) rfl) ?_
          show Go p e below s n0 _ _ _ (T330.setTop (mkF m 163 #[.val (.int xc), .val (.int xg), .val (.int xl), .val (.int ca), .val (.int cp.toInt32), .val (.int cu.toInt32), .val (.int lz), .val (.ref b323), .val (.ref a4_325), .val (.ref a4_329), .val (.int cu.toInt32), .val (.int (1 : Int32))] [(.int (1 : Int32))]))
          refine Go.if_eq C X330 (pc' := 178) at_163 (by decide) (by decide) (fun hc => absurd hc (by decide)) (fun _ => ?_)
          show Go p e below s n0 _ _ _ (T330.setTop (mkF m 166 #[.val (.int xc), .val (.int xg), .val (.int xl), .val (.int ca), .val (.int cp.toInt32), .val (.int cu.toInt32), .val (.int lz), .val (.ref b323), .val (.ref a4_325), .val (.ref a4_329), .val (.int cu.toInt32), .val (.int (1 : Int32))] []))
          refine Go.st (fun _ => XS.aload X330.here C.hx rfl (hb C.hby at_166) rfl rfl) ?_
          show Go p e below s n0 _ _ _ (T330.setTop (mkF m 168 #[.val (.int xc), .val (.int xg), .val (.int xl), .val (.int ca), .val (.int cp.toInt32), .val (.int cu.toInt32), .val (.int lz), .val (.ref b323), .val (.ref a4_325), .val (.ref a4_329), .val (.int cu.toInt32), .val (.int (1 : Int32))] [(.ref b323)]))
          refine Go.callV C X330 (W := 0) (argsL := []) (rest := []) (a := b323) (BB329).1 (wd 67 rfl) (wd 68 rfl) (wd 70 rfl) (wd 69 rfl) (wd 6 rfl) (wd 71 rfl) (by decide) rfl (con_records l Z a0 hw n0 h329 X330.size b323 a1_324 a2_324 a4_329 cp n_329 0 0 B326 F327 BB329) (by decide) (by decide) rfl (lenOf pd_11 rfl) (Nat.le_of_ble_eq_true rfl) rfl at_168 (by decide) (by decide) (fun T353 h353 v353 X353 hQ353 => ?_)
          obtain ⟨rfl, hh353⟩ := hQ353
          rw [hh353] at X353
          show Go p e below s n0 _ _ _ (T353.setTop (mkF m 171 #[.val (.int xc), .val (.int xg), .val (.int xl), .val (.int ca), .val (.int cp.toInt32), .val (.int cu.toInt32), .val (.int lz), .val (.ref b323), .val (.ref a4_325), .val (.ref a4_329), .val (.int cu.toInt32), .val (.int (1 : Int32))] [(.int (0 : Int32))]))
          refine Go.if_ne C X353 (pc' := 178) at_171 (by decide) (by decide) (fun hc => absurd hc (by decide)) (fun _ => ?_)
          show Go p e below s n0 _ _ _ (T353.setTop (mkF m 174 #[.val (.int xc), .val (.int xg), .val (.int xl), .val (.int ca), .val (.int cp.toInt32), .val (.int cu.toInt32), .val (.int lz), .val (.ref b323), .val (.ref a4_325), .val (.ref a4_329), .val (.int cu.toInt32), .val (.int (1 : Int32))] []))
          refine Go.st (fun _ => XS.iconst X353.here C.hx rfl (hb C.hby at_174)) ?_
          show Go p e below s n0 _ _ _ (T353.setTop (mkF m 175 #[.val (.int xc), .val (.int xg), .val (.int xl), .val (.int ca), .val (.int cp.toInt32), .val (.int cu.toInt32), .val (.int lz), .val (.ref b323), .val (.ref a4_325), .val (.ref a4_329), .val (.int cu.toInt32), .val (.int (1 : Int32))] [(.int (1 : Int32))]))
          refine Go.st (fun _ => XS.goto X353.here C.hx rfl (pc0 := 175) (pc' := 179) rfl (hb C.hby at_175) (by decide) (by decide)) ?_
          show Go p e below s n0 _ _ _ (T353.setTop (mkF m 179 #[.val (.int xc), .val (.int xg), .val (.int xl), .val (.int ca), .val (.int cp.toInt32), .val (.int cu.toInt32), .val (.int lz), .val (.ref b323), .val (.ref a4_325), .val (.ref a4_329), .val (.int cu.toInt32), .val (.int (1 : Int32))] [(.int (1 : Int32))]))
          refine Go.st (fun _ => XS.istore X353.here C.hx rfl (hb C.hby at_179) rfl (l' := #[.val (.int xc), .val (.int xg), .val (.int xl), .val (.int ca), .val (.int cp.toInt32), .val (.int cu.toInt32), .val (.int lz), .val (.ref b323), .val (.ref a4_325), .val (.ref a4_329), .val (.int cu.toInt32), .val (.int (1 : Int32))]) rfl) ?_
          show Go p e below s n0 _ _ _ (T353.setTop (mkF m 181 #[.val (.int xc), .val (.int xg), .val (.int xl), .val (.int ca), .val (.int cp.toInt32), .val (.int cu.toInt32), .val (.int lz), .val (.ref b323), .val (.ref a4_325), .val (.ref a4_329), .val (.int cu.toInt32), .val (.int (1 : Int32))] []))
          refine Go.st (fun _ => XS.aload X353.here C.hx rfl (hb C.hby at_181) rfl rfl) ?_
          show Go p e below s n0 _ _ _ (T353.setTop (mkF m 183 #[.val (.int xc), .val (.int xg), .val (.int xl), .val (.int ca), .val (.int cp.toInt32), .val (.int cu.toInt32), .val (.int lz), .val (.ref b323), .val (.ref a4_325), .val (.ref a4_329), .val (.int cu.toInt32), .val (.int (1 : Int32))] [(.ref b323)]))
          refine Go.st (fun _ => XS.iconst X353.here C.hx rfl (hb C.hby at_183)) ?_
          show Go p e below s n0 _ _ _ (T353.setTop (mkF m 184 #[.val (.int xc), .val (.int xg), .val (.int xl), .val (.int ca), .val (.int cp.toInt32), .val (.int cu.toInt32), .val (.int lz), .val (.ref b323), .val (.ref a4_325), .val (.ref a4_329), .val (.int cu.toInt32), .val (.int (1 : Int32))] [(.int (3 : Int32)), (.ref b323)]))
          refine Go.st (fun _ => XS.iconst X353.here C.hx rfl (hb C.hby at_184)) ?_
          show Go p e below s n0 _ _ _ (T353.setTop (mkF m 185 #[.val (.int xc), .val (.int xg), .val (.int xl), .val (.int ca), .val (.int cp.toInt32), .val (.int cu.toInt32), .val (.int lz), .val (.ref b323), .val (.ref a4_325), .val (.ref a4_329), .val (.int cu.toInt32), .val (.int (1 : Int32))] [(.int (5 : Int32)), (.int (3 : Int32)), (.ref b323)]))
          refine Go.callV C X353 (W := 0) (argsL := [(.int (3 : Int32)), (.int (5 : Int32))]) (rest := []) (a := b323) (BB329).1 (wd 43 rfl) (wd 44 rfl) (wd 46 rfl) (wd 45 rfl) (wd 6 rfl) (wd 47 rfl) (by decide) rfl (con_add l Z a0 hw n0 h329 X353.size b323 a1_324 a2_324 a4_329 cp n_329 (3 : Int32) (5 : Int32) 0 B326 F327 DD329 BB329) (by decide) (by decide) rfl (lenOf pd_7 rfl) (Nat.le_of_ble_eq_true rfl) rfl at_185 (by decide) (by decide) (fun T355 h355 v355 X355 hQ355 => ?_)
          obtain ⟨rfl, B355, BB355⟩ := hQ355
          show Go p e below s n0 _ _ _ (T355.setTop (mkF m 188 #[.val (.int xc), .val (.int xg), .val (.int xl), .val (.int ca), .val (.int cp.toInt32), .val (.int cu.toInt32), .val (.int lz), .val (.ref b323), .val (.ref a4_325), .val (.ref a4_329), .val (.int cu.toInt32), .val (.int (1 : Int32))] []))
          refine Go.st (fun _ => XS.aload X355.here C.hx rfl (hb C.hby at_188) rfl rfl) ?_
          show Go p e below s n0 _ _ _ (T355.setTop (mkF m 190 #[.val (.int xc), .val (.int xg), .val (.int xl), .val (.int ca), .val (.int cp.toInt32), .val (.int cu.toInt32), .val (.int lz), .val (.ref b323), .val (.ref a4_325), .val (.ref a4_329), .val (.int cu.toInt32), .val (.int (1 : Int32))] [(.ref b323)]))
          refine Go.callV C X355 (W := 0) (argsL := []) (rest := []) (a := b323) (BB355).1 (wd 50 rfl) (wd 51 rfl) (wd 53 rfl) (wd 52 rfl) (wd 6 rfl) (wd 54 rfl) (by decide) rfl (con_end l Z a0 hw n0 h355 X355.size b323 a1_324 a2_324 a4_329 cp n_329 B355 F327 DD329 BB355) (by decide) (by decide) rfl (lenOf pd_8 rfl) (Nat.le_of_ble_eq_true rfl) rfl at_190 (by decide) (by decide) (fun T356 h356 v356 X356 hQ356 => ?_)
          obtain ⟨rfl, F356, BB356⟩ := hQ356
          show Go p e below s n0 _ _ _ (T356.setTop (mkF m 193 #[.val (.int xc), .val (.int xg), .val (.int xl), .val (.int ca), .val (.int cp.toInt32), .val (.int cu.toInt32), .val (.int lz), .val (.ref b323), .val (.ref a4_325), .val (.ref a4_329), .val (.int cu.toInt32), .val (.int (1 : Int32))] []))
          refine Go.st (fun _ => XS.iload X356.here C.hx rfl (hb C.hby at_193) rfl) ?_
          show Go p e below s n0 _ _ _ (T356.setTop (mkF m 195 #[.val (.int xc), .val (.int xg), .val (.int xl), .val (.int ca), .val (.int cp.toInt32), .val (.int cu.toInt32), .val (.int lz), .val (.ref b323), .val (.ref a4_325), .val (.ref a4_329), .val (.int cu.toInt32), .val (.int (1 : Int32))] [(.int (1 : Int32))]))
          refine Go.if_eq C X356 (pc' := 212) at_195 (by decide) (by decide) (fun hc => absurd hc (by decide)) (fun _ => ?_)
          show Go p e below s n0 _ _ _ (T356.setTop (mkF m 198 #[.val (.int xc), .val (.int xg), .val (.int xl), .val (.int ca), .val (.int cp.toInt32), .val (.int cu.toInt32), .val (.int lz), .val (.ref b323), .val (.ref a4_325), .val (.ref a4_329), .val (.int cu.toInt32), .val (.int (1 : Int32))] []))
          refine Go.st (fun _ => XS.aload X356.here C.hx rfl (hb C.hby at_198) rfl rfl) ?_
          show Go p e below s n0 _ _ _ (T356.setTop (mkF m 200 #[.val (.int xc), .val (.int xg), .val (.int xl), .val (.int ca), .val (.int cp.toInt32), .val (.int cu.toInt32), .val (.int lz), .val (.ref b323), .val (.ref a4_325), .val (.ref a4_329), .val (.int cu.toInt32), .val (.int (1 : Int32))] [(.ref b323)]))
          refine Go.st (fun _ => XS.iconst X356.here C.hx rfl (hb C.hby at_200)) ?_
          show Go p e below s n0 _ _ _ (T356.setTop (mkF m 201 #[.val (.int xc), .val (.int xg), .val (.int xl), .val (.int ca), .val (.int cp.toInt32), .val (.int cu.toInt32), .val (.int lz), .val (.ref b323), .val (.ref a4_325), .val (.ref a4_329), .val (.int cu.toInt32), .val (.int (1 : Int32))] [(.int (0 : Int32)), (.ref b323)]))
          refine Go.callV C X356 (W := 0) (argsL := [(.int (0 : Int32))]) (rest := []) (a := b323) (BB356).1 (wd 72 rfl) (wd 73 rfl) (wd 75 rfl) (wd 74 rfl) (wd 6 rfl) (wd 76 rfl) (by decide) rfl (con_fields l Z a0 hw n0 h356 X356.size b323 a1_324 a2_324 a4_329 cp n_329 1 B355 F356 BB356) (by decide) (by decide) rfl (lenOf pd_12 rfl) (Nat.le_of_ble_eq_true rfl) rfl at_201 (by decide) (by decide) (fun T358 h358 v358 X358 hQ358 => ?_)
          obtain ⟨rfl, hh358⟩ := hQ358
          rw [hh358] at X358
          show Go p e below s n0 _ _ _ (T358.setTop (mkF m 204 #[.val (.int xc), .val (.int xg), .val (.int xl), .val (.int ca), .val (.int cp.toInt32), .val (.int cu.toInt32), .val (.int lz), .val (.ref b323), .val (.ref a4_325), .val (.ref a4_329), .val (.int cu.toInt32), .val (.int (1 : Int32))] [(.int (1 : Int32))]))
          refine Go.st (fun _ => XS.iconst X358.here C.hx rfl (hb C.hby at_204)) ?_
          show Go p e below s n0 _ _ _ (T358.setTop (mkF m 205 #[.val (.int xc), .val (.int xg), .val (.int xl), .val (.int ca), .val (.int cp.toInt32), .val (.int cu.toInt32), .val (.int lz), .val (.ref b323), .val (.ref a4_325), .val (.ref a4_329), .val (.int cu.toInt32), .val (.int (1 : Int32))] [(.int (1 : Int32)), (.int (1 : Int32))]))
          refine Go.icmp_ne C X358 (pc' := 212) at_205 (by decide) (by decide) (fun hc => absurd hc (by decide)) (fun _ => ?_)
          show Go p e below s n0 _ _ _ (T358.setTop (mkF m 208 #[.val (.int xc), .val (.int xg), .val (.int xl), .val (.int ca), .val (.int cp.toInt32), .val (.int cu.toInt32), .val (.int lz), .val (.ref b323), .val (.ref a4_325), .val (.ref a4_329), .val (.int cu.toInt32), .val (.int (1 : Int32))] []))
          refine Go.st (fun _ => XS.iconst X358.here C.hx rfl (hb C.hby at_208)) ?_
          show Go p e below s n0 _ _ _ (T358.setTop (mkF m 209 #[.val (.int xc), .val (.int xg), .val (.int xl), .val (.int ca), .val (.int cp.toInt32), .val (.int cu.toInt32), .val (.int lz), .val (.ref b323), .val (.ref a4_325), .val (.ref a4_329), .val (.int cu.toInt32), .val (.int (1 : Int32))] [(.int (1 : Int32))]))
          refine Go.st (fun _ => XS.goto X358.here C.hx rfl (pc0 := 209) (pc' := 213) rfl (hb C.hby at_209) (by decide) (by decide)) ?_
          show Go p e below s n0 _ _ _ (T358.setTop (mkF m 213 #[.val (.int xc), .val (.int xg), .val (.int xl), .val (.int ca), .val (.int cp.toInt32), .val (.int cu.toInt32), .val (.int lz), .val (.ref b323), .val (.ref a4_325), .val (.ref a4_329), .val (.int cu.toInt32), .val (.int (1 : Int32))] [(.int (1 : Int32))]))
          exact Go.retZ C X358 (by decide) at_213 rfl (by decide) (by decide)
      · show Go p e below s n0 _ _ _ (T330.setTop (mkF m 108 #[.val (.int xc), .val (.int xg), .val (.int xl), .val (.int ca), .val (.int cp.toInt32), .val (.int cu.toInt32), .val (.int lz), .val (.ref b323), .val (.ref a4_325), .val (.ref a4_329), .unset, .unset] []))
        refine Go.st (fun _ => XS.iload X330.here C.hx rfl (hb C.hby at_108) rfl) ?_
        show Go p e below s n0 _ _ _ (T330.setTop (mkF m 110 #[.val (.int xc), .val (.int xg), .val (.int xl), .val (.int ca), .val (.int cp.toInt32), .val (.int cu.toInt32), .val (.int lz), .val (.ref b323), .val (.ref a4_325), .val (.ref a4_329), .unset, .unset] [(.int cp.toInt32)]))
        refine Go.st (fun _ => XS.istore X330.here C.hx rfl (hb C.hby at_110) rfl (l' := #[.val (.int xc), .val (.int xg), .val (.int xl), .val (.int ca), .val (.int cp.toInt32), .val (.int cu.toInt32), .val (.int lz), .val (.ref b323), .val (.ref a4_325), .val (.ref a4_329), .val (.int cp.toInt32), .unset]) rfl) ?_
        show Go p e below s n0 _ _ _ (T330.setTop (mkF m 112 #[.val (.int xc), .val (.int xg), .val (.int xl), .val (.int ca), .val (.int cp.toInt32), .val (.int cu.toInt32), .val (.int lz), .val (.ref b323), .val (.ref a4_325), .val (.ref a4_329), .val (.int cp.toInt32), .unset] []))
        refine Go.st (fun _ => XS.goto X330.here C.hx rfl (pc0 := 112) (pc' := 119) rfl (hb C.hby at_112) (by decide) (by decide)) ?_
        show Go p e below s n0 _ _ _ (T330.setTop (mkF m 119 #[.val (.int xc), .val (.int xg), .val (.int xl), .val (.int ca), .val (.int cp.toInt32), .val (.int cu.toInt32), .val (.int lz), .val (.ref b323), .val (.ref a4_325), .val (.ref a4_329), .val (.int cp.toInt32), .unset] []))
        refine Go.st (fun _ => XS.aload X330.here C.hx rfl (hb C.hby at_119) rfl rfl) ?_
        show Go p e below s n0 _ _ _ (T330.setTop (mkF m 121 #[.val (.int xc), .val (.int xg), .val (.int xl), .val (.int ca), .val (.int cp.toInt32), .val (.int cu.toInt32), .val (.int lz), .val (.ref b323), .val (.ref a4_325), .val (.ref a4_329), .val (.int cp.toInt32), .unset] [(.ref a4_329)]))
        refine Go.alen C X330 (BB329).2.2.2.2.2.2.2.2.2.1 (z := n_329.toInt32) (by unfold Z0L; rw [List.length_replicate]) at_121 ?_
        show Go p e below s n0 _ _ _ (T330.setTop (mkF m 122 #[.val (.int xc), .val (.int xg), .val (.int xl), .val (.int ca), .val (.int cp.toInt32), .val (.int cu.toInt32), .val (.int lz), .val (.ref b323), .val (.ref a4_325), .val (.ref a4_329), .val (.int cp.toInt32), .unset] [(.int n_329.toInt32)]))
        refine Go.st (fun _ => XS.iload X330.here C.hx rfl (hb C.hby at_122) rfl) ?_
        show Go p e below s n0 _ _ _ (T330.setTop (mkF m 124 #[.val (.int xc), .val (.int xg), .val (.int xl), .val (.int ca), .val (.int cp.toInt32), .val (.int cu.toInt32), .val (.int lz), .val (.ref b323), .val (.ref a4_325), .val (.ref a4_329), .val (.int cp.toInt32), .unset] [(.int cp.toInt32), (.int n_329.toInt32)]))
        refine Go.icmp_ne C X330 (pc' := 158) at_124 (by decide) (by decide) (fun hc => by first | exact absurd hc (show n_329.toInt32 = cp.toInt32 from by rw [ex329]; simp [hc84_331, hc98_332, hc105_346]) | exact absurd (show n_329.toInt32 = cp.toInt32 from by rw [ex329]; simp [hc84_331, hc98_332, hc105_346]) hc) (fun _ => ?_)
        show Go p e below s n0 _ _ _ (T330.setTop (mkF m 127 #[.val (.int xc), .val (.int xg), .val (.int xl), .val (.int ca), .val (.int cp.toInt32), .val (.int cu.toInt32), .val (.int lz), .val (.ref b323), .val (.ref a4_325), .val (.ref a4_329), .val (.int cp.toInt32), .unset] []))
        refine Go.st (fun _ => XS.aload X330.here C.hx rfl (hb C.hby at_127) rfl rfl) ?_
        show Go p e below s n0 _ _ _ (T330.setTop (mkF m 129 #[.val (.int xc), .val (.int xg), .val (.int xl), .val (.int ca), .val (.int cp.toInt32), .val (.int cu.toInt32), .val (.int lz), .val (.ref b323), .val (.ref a4_325), .val (.ref a4_329), .val (.int cp.toInt32), .unset] [(.ref a4_329)]))
        refine Go.st (fun _ => XS.aload X330.here C.hx rfl (hb C.hby at_129) rfl rfl) ?_
        show Go p e below s n0 _ _ _ (T330.setTop (mkF m 131 #[.val (.int xc), .val (.int xg), .val (.int xl), .val (.int ca), .val (.int cp.toInt32), .val (.int cu.toInt32), .val (.int lz), .val (.ref b323), .val (.ref a4_325), .val (.ref a4_329), .val (.int cp.toInt32), .unset] [(.ref a4_325), (.ref a4_329)]))
        refine Go.acmp_ne C X330 (pc' := 138) rfl rfl at_131 (by decide) (by decide) (fun hc131_361 => ?_) (fun hc131_361 => ?_)
        · show Go p e below s n0 _ _ _ (T330.setTop (mkF m 138 #[.val (.int xc), .val (.int xg), .val (.int xl), .val (.int ca), .val (.int cp.toInt32), .val (.int cu.toInt32), .val (.int lz), .val (.ref b323), .val (.ref a4_325), .val (.ref a4_329), .val (.int cp.toInt32), .unset] []))
          refine Go.st (fun _ => XS.iconst X330.here C.hx rfl (hb C.hby at_138)) ?_
          show Go p e below s n0 _ _ _ (T330.setTop (mkF m 139 #[.val (.int xc), .val (.int xg), .val (.int xl), .val (.int ca), .val (.int cp.toInt32), .val (.int cu.toInt32), .val (.int lz), .val (.ref b323), .val (.ref a4_325), .val (.ref a4_329), .val (.int cp.toInt32), .unset] [(.int (0 : Int32))]))
          refine Go.st (fun _ => XS.iload X330.here C.hx rfl (hb C.hby at_139) rfl) ?_
          show Go p e below s n0 _ _ _ (T330.setTop (mkF m 141 #[.val (.int xc), .val (.int xg), .val (.int xl), .val (.int ca), .val (.int cp.toInt32), .val (.int cu.toInt32), .val (.int lz), .val (.ref b323), .val (.ref a4_325), .val (.ref a4_329), .val (.int cp.toInt32), .unset] [(.int cp.toInt32), (.int (0 : Int32))]))
          refine Go.st (fun _ => XS.iload X330.here C.hx rfl (hb C.hby at_141) rfl) ?_
          show Go p e below s n0 _ _ _ (T330.setTop (mkF m 143 #[.val (.int xc), .val (.int xg), .val (.int xl), .val (.int ca), .val (.int cp.toInt32), .val (.int cu.toInt32), .val (.int lz), .val (.ref b323), .val (.ref a4_325), .val (.ref a4_329), .val (.int cp.toInt32), .unset] [(.int cu.toInt32), (.int cp.toInt32), (.int (0 : Int32))]))
          refine Go.icmp_ne C X330 (pc' := 150) at_143 (by decide) (by decide) (fun hc143_362 => ?_) (fun hc143_362 => ?_)
          · show Go p e below s n0 _ _ _ (T330.setTop (mkF m 150 #[.val (.int xc), .val (.int xg), .val (.int xl), .val (.int ca), .val (.int cp.toInt32), .val (.int cu.toInt32), .val (.int lz), .val (.ref b323), .val (.ref a4_325), .val (.ref a4_329), .val (.int cp.toInt32), .unset] [(.int (0 : Int32))]))
            refine Go.st (fun _ => XS.iconst X330.here C.hx rfl (hb C.hby at_150)) ?_
            show Go p e below s n0 _ _ _ (T330.setTop (mkF m 151 #[.val (.int xc), .val (.int xg), .val (.int xl), .val (.int ca), .val (.int cp.toInt32), .val (.int cu.toInt32), .val (.int lz), .val (.ref b323), .val (.ref a4_325), .val (.ref a4_329), .val (.int cp.toInt32), .unset] [(.int (0 : Int32)), (.int (0 : Int32))]))
            refine Go.icmp_ne C X330 (pc' := 158) at_151 (by decide) (by decide) (fun hc => absurd hc (by decide)) (fun _ => ?_)
            show Go p e below s n0 _ _ _ (T330.setTop (mkF m 154 #[.val (.int xc), .val (.int xg), .val (.int xl), .val (.int ca), .val (.int cp.toInt32), .val (.int cu.toInt32), .val (.int lz), .val (.ref b323), .val (.ref a4_325), .val (.ref a4_329), .val (.int cp.toInt32), .unset] []))
            refine Go.st (fun _ => XS.iconst X330.here C.hx rfl (hb C.hby at_154)) ?_
            show Go p e below s n0 _ _ _ (T330.setTop (mkF m 155 #[.val (.int xc), .val (.int xg), .val (.int xl), .val (.int ca), .val (.int cp.toInt32), .val (.int cu.toInt32), .val (.int lz), .val (.ref b323), .val (.ref a4_325), .val (.ref a4_329), .val (.int cp.toInt32), .unset] [(.int (1 : Int32))]))
            refine Go.st (fun _ => XS.goto X330.here C.hx rfl (pc0 := 155) (pc' := 159) rfl (hb C.hby at_155) (by decide) (by decide)) ?_
            show Go p e below s n0 _ _ _ (T330.setTop (mkF m 159 #[.val (.int xc), .val (.int xg), .val (.int xl), .val (.int ca), .val (.int cp.toInt32), .val (.int cu.toInt32), .val (.int lz), .val (.ref b323), .val (.ref a4_325), .val (.ref a4_329), .val (.int cp.toInt32), .unset] [(.int (1 : Int32))]))
            refine Go.st (fun _ => XS.istore X330.here C.hx rfl (hb C.hby at_159) rfl (l' := #[.val (.int xc), .val (.int xg), .val (.int xl), .val (.int ca), .val (.int cp.toInt32), .val (.int cu.toInt32), .val (.int lz), .val (.ref b323), .val (.ref a4_325), .val (.ref a4_329), .val (.int cp.toInt32), .val (.int (1 : Int32))]) rfl) ?_
            show Go p e below s n0 _ _ _ (T330.setTop (mkF m 161 #[.val (.int xc), .val (.int xg), .val (.int xl), .val (.int ca), .val (.int cp.toInt32), .val (.int cu.toInt32), .val (.int lz), .val (.ref b323), .val (.ref a4_325), .val (.ref a4_329), .val (.int cp.toInt32), .val (.int (1 : Int32))] []))
            refine Go.st (fun _ => XS.iload X330.here C.hx rfl (hb C.hby at_161) rfl) ?_
            show Go p e below s n0 _ _ _ (T330.setTop (mkF m 163 #[.val (.int xc), .val (.int xg), .val (.int xl), .val (.int ca), .val (.int cp.toInt32), .val (.int cu.toInt32), .val (.int lz), .val (.ref b323), .val (.ref a4_325), .val (.ref a4_329), .val (.int cp.toInt32), .val (.int (1 : Int32))] [(.int (1 : Int32))]))
            refine Go.if_eq C X330 (pc' := 178) at_163 (by decide) (by decide) (fun hc => absurd hc (by decide)) (fun _ => ?_)
            show Go p e below s n0 _ _ _ (T330.setTop (mkF m 166 #[.val (.int xc), .val (.int xg), .val (.int xl), .val (.int ca), .val (.int cp.toInt32), .val (.int cu.toInt32), .val (.int lz), .val (.ref b323), .val (.ref a4_325), .val (.ref a4_329), .val (.int cp.toInt32), .val (.int (1 : Int32))] []))
            refine Go.st (fun _ => XS.aload X330.here C.hx rfl (hb C.hby at_166) rfl rfl) ?_
            show Go p e below s n0 _ _ _ (T330.setTop (mkF m 168 #[.val (.int xc), .val (.int xg), .val (.int xl), .val (.int ca), .val (.int cp.toInt32), .val (.int cu.toInt32), .val (.int lz), .val (.ref b323), .val (.ref a4_325), .val (.ref a4_329), .val (.int cp.toInt32), .val (.int (1 : Int32))] [(.ref b323)]))
            refine Go.callV C X330 (W := 0) (argsL := []) (rest := []) (a := b323) (BB329).1 (wd 67 rfl) (wd 68 rfl) (wd 70 rfl) (wd 69 rfl) (wd 6 rfl) (wd 71 rfl) (by decide) rfl (con_records l Z a0 hw n0 h329 X330.size b323 a1_324 a2_324 a4_329 cp n_329 0 0 B326 F327 BB329) (by decide) (by decide) rfl (lenOf pd_11 rfl) (Nat.le_of_ble_eq_true rfl) rfl at_168 (by decide) (by decide) (fun T365 h365 v365 X365 hQ365 => ?_)
            obtain ⟨rfl, hh365⟩ := hQ365
            rw [hh365] at X365
            show Go p e below s n0 _ _ _ (T365.setTop (mkF m 171 #[.val (.int xc), .val (.int xg), .val (.int xl), .val (.int ca), .val (.int cp.toInt32), .val (.int cu.toInt32), .val (.int lz), .val (.ref b323), .val (.ref a4_325), .val (.ref a4_329), .val (.int cp.toInt32), .val (.int (1 : Int32))] [(.int (0 : Int32))]))
            refine Go.if_ne C X365 (pc' := 178) at_171 (by decide) (by decide) (fun hc => absurd hc (by decide)) (fun _ => ?_)
            show Go p e below s n0 _ _ _ (T365.setTop (mkF m 174 #[.val (.int xc), .val (.int xg), .val (.int xl), .val (.int ca), .val (.int cp.toInt32), .val (.int cu.toInt32), .val (.int lz), .val (.ref b323), .val (.ref a4_325), .val (.ref a4_329), .val (.int cp.toInt32), .val (.int (1 : Int32))] []))
            refine Go.st (fun _ => XS.iconst X365.here C.hx rfl (hb C.hby at_174)) ?_
            show Go p e below s n0 _ _ _ (T365.setTop (mkF m 175 #[.val (.int xc), .val (.int xg), .val (.int xl), .val (.int ca), .val (.int cp.toInt32), .val (.int cu.toInt32), .val (.int lz), .val (.ref b323), .val (.ref a4_325), .val (.ref a4_329), .val (.int cp.toInt32), .val (.int (1 : Int32))] [(.int (1 : Int32))]))
            refine Go.st (fun _ => XS.goto X365.here C.hx rfl (pc0 := 175) (pc' := 179) rfl (hb C.hby at_175) (by decide) (by decide)) ?_
            show Go p e below s n0 _ _ _ (T365.setTop (mkF m 179 #[.val (.int xc), .val (.int xg), .val (.int xl), .val (.int ca), .val (.int cp.toInt32), .val (.int cu.toInt32), .val (.int lz), .val (.ref b323), .val (.ref a4_325), .val (.ref a4_329), .val (.int cp.toInt32), .val (.int (1 : Int32))] [(.int (1 : Int32))]))
            refine Go.st (fun _ => XS.istore X365.here C.hx rfl (hb C.hby at_179) rfl (l' := #[.val (.int xc), .val (.int xg), .val (.int xl), .val (.int ca), .val (.int cp.toInt32), .val (.int cu.toInt32), .val (.int lz), .val (.ref b323), .val (.ref a4_325), .val (.ref a4_329), .val (.int cp.toInt32), .val (.int (1 : Int32))]) rfl) ?_
            show Go p e below s n0 _ _ _ (T365.setTop (mkF m 181 #[.val (.int xc), .val (.int xg), .val (.int xl), .val (.int ca), .val (.int cp.toInt32), .val (.int cu.toInt32), .val (.int lz), .val (.ref b323), .val (.ref a4_325), .val (.ref a4_329), .val (.int cp.toInt32), .val (.int (1 : Int32))] []))
            refine Go.st (fun _ => XS.aload X365.here C.hx rfl (hb C.hby at_181) rfl rfl) ?_
            show Go p e below s n0 _ _ _ (T365.setTop (mkF m 183 #[.val (.int xc), .val (.int xg), .val (.int xl), .val (.int ca), .val (.int cp.toInt32), .val (.int cu.toInt32), .val (.int lz), .val (.ref b323), .val (.ref a4_325), .val (.ref a4_329), .val (.int cp.toInt32), .val (.int (1 : Int32))] [(.ref b323)]))
            refine Go.st (fun _ => XS.iconst X365.here C.hx rfl (hb C.hby at_183)) ?_
            show Go p e below s n0 _ _ _ (T365.setTop (mkF m 184 #[.val (.int xc), .val (.int xg), .val (.int xl), .val (.int ca), .val (.int cp.toInt32), .val (.int cu.toInt32), .val (.int lz), .val (.ref b323), .val (.ref a4_325), .val (.ref a4_329), .val (.int cp.toInt32), .val (.int (1 : Int32))] [(.int (3 : Int32)), (.ref b323)]))
            refine Go.st (fun _ => XS.iconst X365.here C.hx rfl (hb C.hby at_184)) ?_
            show Go p e below s n0 _ _ _ (T365.setTop (mkF m 185 #[.val (.int xc), .val (.int xg), .val (.int xl), .val (.int ca), .val (.int cp.toInt32), .val (.int cu.toInt32), .val (.int lz), .val (.ref b323), .val (.ref a4_325), .val (.ref a4_329), .val (.int cp.toInt32), .val (.int (1 : Int32))] [(.int (5 : Int32)), (.int (3 : Int32)), (.ref b323)]))
            refine Go.callV C X365 (W := 0) (argsL := [(.int (3 : Int32)), (.int (5 : Int32))]) (rest := []) (a := b323) (BB329).1 (wd 43 rfl) (wd 44 rfl) (wd 46 rfl) (wd 45 rfl) (wd 6 rfl) (wd 47 rfl) (by decide) rfl (con_add l Z a0 hw n0 h329 X365.size b323 a1_324 a2_324 a4_329 cp n_329 (3 : Int32) (5 : Int32) 0 B326 F327 DD329 BB329) (by decide) (by decide) rfl (lenOf pd_7 rfl) (Nat.le_of_ble_eq_true rfl) rfl at_185 (by decide) (by decide) (fun T367 h367 v367 X367 hQ367 => ?_)
            obtain ⟨rfl, B367, BB367⟩ := hQ367
            show Go p e below s n0 _ _ _ (T367.setTop (mkF m 188 #[.val (.int xc), .val (.int xg), .val (.int xl), .val (.int ca), .val (.int cp.toInt32), .val (.int cu.toInt32), .val (.int lz), .val (.ref b323), .val (.ref a4_325), .val (.ref a4_329), .val (.int cp.toInt32), .val (.int (1 : Int32))] []))
            refine Go.st (fun _ => XS.aload X367.here C.hx rfl (hb C.hby at_188) rfl rfl) ?_
            show Go p e below s n0 _ _ _ (T367.setTop (mkF m 190 #[.val (.int xc), .val (.int xg), .val (.int xl), .val (.int ca), .val (.int cp.toInt32), .val (.int cu.toInt32), .val (.int lz), .val (.ref b323), .val (.ref a4_325), .val (.ref a4_329), .val (.int cp.toInt32), .val (.int (1 : Int32))] [(.ref b323)]))
            refine Go.callV C X367 (W := 0) (argsL := []) (rest := []) (a := b323) (BB367).1 (wd 50 rfl) (wd 51 rfl) (wd 53 rfl) (wd 52 rfl) (wd 6 rfl) (wd 54 rfl) (by decide) rfl (con_end l Z a0 hw n0 h367 X367.size b323 a1_324 a2_324 a4_329 cp n_329 B367 F327 DD329 BB367) (by decide) (by decide) rfl (lenOf pd_8 rfl) (Nat.le_of_ble_eq_true rfl) rfl at_190 (by decide) (by decide) (fun T368 h368 v368 X368 hQ368 => ?_)
            obtain ⟨rfl, F368, BB368⟩ := hQ368
            show Go p e below s n0 _ _ _ (T368.setTop (mkF m 193 #[.val (.int xc), .val (.int xg), .val (.int xl), .val (.int ca), .val (.int cp.toInt32), .val (.int cu.toInt32), .val (.int lz), .val (.ref b323), .val (.ref a4_325), .val (.ref a4_329), .val (.int cp.toInt32), .val (.int (1 : Int32))] []))
            refine Go.st (fun _ => XS.iload X368.here C.hx rfl (hb C.hby at_193) rfl) ?_
            show Go p e below s n0 _ _ _ (T368.setTop (mkF m 195 #[.val (.int xc), .val (.int xg), .val (.int xl), .val (.int ca), .val (.int cp.toInt32), .val (.int cu.toInt32), .val (.int lz), .val (.ref b323), .val (.ref a4_325), .val (.ref a4_329), .val (.int cp.toInt32), .val (.int (1 : Int32))] [(.int (1 : Int32))]))
            refine Go.if_eq C X368 (pc' := 212) at_195 (by decide) (by decide) (fun hc => absurd hc (by decide)) (fun _ => ?_)
            show Go p e below s n0 _ _ _ (T368.setTop (mkF m 198 #[.val (.int xc), .val (.int xg), .val (.int xl), .val (.int ca), .val (.int cp.toInt32), .val (.int cu.toInt32), .val (.int lz), .val (.ref b323), .val (.ref a4_325), .val (.ref a4_329), .val (.int cp.toInt32), .val (.int (1 : Int32))] []))
            refine Go.st (fun _ => XS.aload X368.here C.hx rfl (hb C.hby at_198) rfl rfl) ?_
            show Go p e below s n0 _ _ _ (T368.setTop (mkF m 200 #[.val (.int xc), .val (.int xg), .val (.int xl), .val (.int ca), .val (.int cp.toInt32), .val (.int cu.toInt32), .val (.int lz), .val (.ref b323), .val (.ref a4_325), .val (.ref a4_329), .val (.int cp.toInt32), .val (.int (1 : Int32))] [(.ref b323)]))
            refine Go.st (fun _ => XS.iconst X368.here C.hx rfl (hb C.hby at_200)) ?_
            show Go p e below s n0 _ _ _ (T368.setTop (mkF m 201 #[.val (.int xc), .val (.int xg), .val (.int xl), .val (.int ca), .val (.int cp.toInt32), .val (.int cu.toInt32), .val (.int lz), .val (.ref b323), .val (.ref a4_325), .val (.ref a4_329), .val (.int cp.toInt32), .val (.int (1 : Int32))] [(.int (0 : Int32)), (.ref b323)]))
            refine Go.callV C X368 (W := 0) (argsL := [(.int (0 : Int32))]) (rest := []) (a := b323) (BB368).1 (wd 72 rfl) (wd 73 rfl) (wd 75 rfl) (wd 74 rfl) (wd 6 rfl) (wd 76 rfl) (by decide) rfl (con_fields l Z a0 hw n0 h368 X368.size b323 a1_324 a2_324 a4_329 cp n_329 1 B367 F368 BB368) (by decide) (by decide) rfl (lenOf pd_12 rfl) (Nat.le_of_ble_eq_true rfl) rfl at_201 (by decide) (by decide) (fun T370 h370 v370 X370 hQ370 => ?_)
            obtain ⟨rfl, hh370⟩ := hQ370
            rw [hh370] at X370
            show Go p e below s n0 _ _ _ (T370.setTop (mkF m 204 #[.val (.int xc), .val (.int xg), .val (.int xl), .val (.int ca), .val (.int cp.toInt32), .val (.int cu.toInt32), .val (.int lz), .val (.ref b323), .val (.ref a4_325), .val (.ref a4_329), .val (.int cp.toInt32), .val (.int (1 : Int32))] [(.int (1 : Int32))]))
            refine Go.st (fun _ => XS.iconst X370.here C.hx rfl (hb C.hby at_204)) ?_
            show Go p e below s n0 _ _ _ (T370.setTop (mkF m 205 #[.val (.int xc), .val (.int xg), .val (.int xl), .val (.int ca), .val (.int cp.toInt32), .val (.int cu.toInt32), .val (.int lz), .val (.ref b323), .val (.ref a4_325), .val (.ref a4_329), .val (.int cp.toInt32), .val (.int (1 : Int32))] [(.int (1 : Int32)), (.int (1 : Int32))]))
            refine Go.icmp_ne C X370 (pc' := 212) at_205 (by decide) (by decide) (fun hc => absurd hc (by decide)) (fun _ => ?_)
            show Go p e below s n0 _ _ _ (T370.setTop (mkF m 208 #[.val (.int xc), .val (.int xg), .val (.int xl), .val (.int ca), .val (.int cp.toInt32), .val (.int cu.toInt32), .val (.int lz), .val (.ref b323), .val (.ref a4_325), .val (.ref a4_329), .val (.int cp.toInt32), .val (.int (1 : Int32))] []))
            refine Go.st (fun _ => XS.iconst X370.here C.hx rfl (hb C.hby at_208)) ?_
            show Go p e below s n0 _ _ _ (T370.setTop (mkF m 209 #[.val (.int xc), .val (.int xg), .val (.int xl), .val (.int ca), .val (.int cp.toInt32), .val (.int cu.toInt32), .val (.int lz), .val (.ref b323), .val (.ref a4_325), .val (.ref a4_329), .val (.int cp.toInt32), .val (.int (1 : Int32))] [(.int (1 : Int32))]))
            refine Go.st (fun _ => XS.goto X370.here C.hx rfl (pc0 := 209) (pc' := 213) rfl (hb C.hby at_209) (by decide) (by decide)) ?_
            show Go p e below s n0 _ _ _ (T370.setTop (mkF m 213 #[.val (.int xc), .val (.int xg), .val (.int xl), .val (.int ca), .val (.int cp.toInt32), .val (.int cu.toInt32), .val (.int lz), .val (.ref b323), .val (.ref a4_325), .val (.ref a4_329), .val (.int cp.toInt32), .val (.int (1 : Int32))] [(.int (1 : Int32))]))
            exact Go.retZ C X370 (by decide) at_213 rfl (by decide) (by decide)
          · show Go p e below s n0 _ _ _ (T330.setTop (mkF m 146 #[.val (.int xc), .val (.int xg), .val (.int xl), .val (.int ca), .val (.int cp.toInt32), .val (.int cu.toInt32), .val (.int lz), .val (.ref b323), .val (.ref a4_325), .val (.ref a4_329), .val (.int cp.toInt32), .unset] [(.int (0 : Int32))]))
            refine Go.st (fun _ => XS.iconst X330.here C.hx rfl (hb C.hby at_146)) ?_
            show Go p e below s n0 _ _ _ (T330.setTop (mkF m 147 #[.val (.int xc), .val (.int xg), .val (.int xl), .val (.int ca), .val (.int cp.toInt32), .val (.int cu.toInt32), .val (.int lz), .val (.ref b323), .val (.ref a4_325), .val (.ref a4_329), .val (.int cp.toInt32), .unset] [(.int (1 : Int32)), (.int (0 : Int32))]))
            refine Go.st (fun _ => XS.goto X330.here C.hx rfl (pc0 := 147) (pc' := 151) rfl (hb C.hby at_147) (by decide) (by decide)) ?_
            exfalso
            have e1 : n_329.toInt32 = cp.toInt32 := by rw [ex329]; simp [hc84_331, hc98_332, hc105_346]
            exact hc131_361 (congrArg Value.ref ((if329).mpr ((eqI (by omega) (by omega)).mp (e1.trans hc143_362))))
        · show Go p e below s n0 _ _ _ (T330.setTop (mkF m 134 #[.val (.int xc), .val (.int xg), .val (.int xl), .val (.int ca), .val (.int cp.toInt32), .val (.int cu.toInt32), .val (.int lz), .val (.ref b323), .val (.ref a4_325), .val (.ref a4_329), .val (.int cp.toInt32), .unset] []))
          refine Go.st (fun _ => XS.iconst X330.here C.hx rfl (hb C.hby at_134)) ?_
          show Go p e below s n0 _ _ _ (T330.setTop (mkF m 135 #[.val (.int xc), .val (.int xg), .val (.int xl), .val (.int ca), .val (.int cp.toInt32), .val (.int cu.toInt32), .val (.int lz), .val (.ref b323), .val (.ref a4_325), .val (.ref a4_329), .val (.int cp.toInt32), .unset] [(.int (1 : Int32))]))
          refine Go.st (fun _ => XS.goto X330.here C.hx rfl (pc0 := 135) (pc' := 139) rfl (hb C.hby at_135) (by decide) (by decide)) ?_
          show Go p e below s n0 _ _ _ (T330.setTop (mkF m 139 #[.val (.int xc), .val (.int xg), .val (.int xl), .val (.int ca), .val (.int cp.toInt32), .val (.int cu.toInt32), .val (.int lz), .val (.ref b323), .val (.ref a4_325), .val (.ref a4_329), .val (.int cp.toInt32), .unset] [(.int (1 : Int32))]))
          refine Go.st (fun _ => XS.iload X330.here C.hx rfl (hb C.hby at_139) rfl) ?_
          show Go p e below s n0 _ _ _ (T330.setTop (mkF m 141 #[.val (.int xc), .val (.int xg), .val (.int xl), .val (.int ca), .val (.int cp.toInt32), .val (.int cu.toInt32), .val (.int lz), .val (.ref b323), .val (.ref a4_325), .val (.ref a4_329), .val (.int cp.toInt32), .unset] [(.int cp.toInt32), (.int (1 : Int32))]))
          refine Go.st (fun _ => XS.iload X330.here C.hx rfl (hb C.hby at_141) rfl) ?_
          show Go p e below s n0 _ _ _ (T330.setTop (mkF m 143 #[.val (.int xc), .val (.int xg), .val (.int xl), .val (.int ca), .val (.int cp.toInt32), .val (.int cu.toInt32), .val (.int lz), .val (.ref b323), .val (.ref a4_325), .val (.ref a4_329), .val (.int cp.toInt32), .unset] [(.int cu.toInt32), (.int cp.toInt32), (.int (1 : Int32))]))
          refine Go.icmp_ne C X330 (pc' := 150) at_143 (by decide) (by decide) (fun hc143_372 => ?_) (fun hc143_372 => ?_)
          · show Go p e below s n0 _ _ _ (T330.setTop (mkF m 150 #[.val (.int xc), .val (.int xg), .val (.int xl), .val (.int ca), .val (.int cp.toInt32), .val (.int cu.toInt32), .val (.int lz), .val (.ref b323), .val (.ref a4_325), .val (.ref a4_329), .val (.int cp.toInt32), .unset] [(.int (1 : Int32))]))
            refine Go.st (fun _ => XS.iconst X330.here C.hx rfl (hb C.hby at_150)) ?_
            exfalso
            have e1 : n_329.toInt32 = cp.toInt32 := by rw [ex329]; simp [hc84_331, hc98_332, hc105_346]
            have e2 := (if329).mp (Value.ref.inj hc131_361)
            exact hc143_372 (by rw [← e1, e2])
          · show Go p e below s n0 _ _ _ (T330.setTop (mkF m 146 #[.val (.int xc), .val (.int xg), .val (.int xl), .val (.int ca), .val (.int cp.toInt32), .val (.int cu.toInt32), .val (.int lz), .val (.ref b323), .val (.ref a4_325), .val (.ref a4_329), .val (.int cp.toInt32), .unset] [(.int (1 : Int32))]))
            refine Go.st (fun _ => XS.iconst X330.here C.hx rfl (hb C.hby at_146)) ?_
            show Go p e below s n0 _ _ _ (T330.setTop (mkF m 147 #[.val (.int xc), .val (.int xg), .val (.int xl), .val (.int ca), .val (.int cp.toInt32), .val (.int cu.toInt32), .val (.int lz), .val (.ref b323), .val (.ref a4_325), .val (.ref a4_329), .val (.int cp.toInt32), .unset] [(.int (1 : Int32)), (.int (1 : Int32))]))
            refine Go.st (fun _ => XS.goto X330.here C.hx rfl (pc0 := 147) (pc' := 151) rfl (hb C.hby at_147) (by decide) (by decide)) ?_
            show Go p e below s n0 _ _ _ (T330.setTop (mkF m 151 #[.val (.int xc), .val (.int xg), .val (.int xl), .val (.int ca), .val (.int cp.toInt32), .val (.int cu.toInt32), .val (.int lz), .val (.ref b323), .val (.ref a4_325), .val (.ref a4_329), .val (.int cp.toInt32), .unset] [(.int (1 : Int32)), (.int (1 : Int32))]))
            refine Go.icmp_ne C X330 (pc' := 158) at_151 (by decide) (by decide) (fun hc => absurd hc (by decide)) (fun _ => ?_)
            show Go p e below s n0 _ _ _ (T330.setTop (mkF m 154 #[.val (.int xc), .val (.int xg), .val (.int xl), .val (.int ca), .val (.int cp.toInt32), .val (.int cu.toInt32), .val (.int lz), .val (.ref b323), .val (.ref a4_325), .val (.ref a4_329), .val (.int cp.toInt32), .unset] []))
            refine Go.st (fun _ => XS.iconst X330.here C.hx rfl (hb C.hby at_154)) ?_
            show Go p e below s n0 _ _ _ (T330.setTop (mkF m 155 #[.val (.int xc), .val (.int xg), .val (.int xl), .val (.int ca), .val (.int cp.toInt32), .val (.int cu.toInt32), .val (.int lz), .val (.ref b323), .val (.ref a4_325), .val (.ref a4_329), .val (.int cp.toInt32), .unset] [(.int (1 : Int32))]))
            refine Go.st (fun _ => XS.goto X330.here C.hx rfl (pc0 := 155) (pc' := 159) rfl (hb C.hby at_155) (by decide) (by decide)) ?_
            show Go p e below s n0 _ _ _ (T330.setTop (mkF m 159 #[.val (.int xc), .val (.int xg), .val (.int xl), .val (.int ca), .val (.int cp.toInt32), .val (.int cu.toInt32), .val (.int lz), .val (.ref b323), .val (.ref a4_325), .val (.ref a4_329), .val (.int cp.toInt32), .unset] [(.int (1 : Int32))]))
            refine Go.st (fun _ => XS.istore X330.here C.hx rfl (hb C.hby at_159) rfl (l' := #[.val (.int xc), .val (.int xg), .val (.int xl), .val (.int ca), .val (.int cp.toInt32), .val (.int cu.toInt32), .val (.int lz), .val (.ref b323), .val (.ref a4_325), .val (.ref a4_329), .val (.int cp.toInt32), .val (.int (1 : Int32))]) rfl) ?_
            show Go p e below s n0 _ _ _ (T330.setTop (mkF m 161 #[.val (.int xc), .val (.int xg), .val (.int xl), .val (.int ca), .val (.int cp.toInt32), .val (.int cu.toInt32), .val (.int lz), .val (.ref b323), .val (.ref a4_325), .val (.ref a4_329), .val (.int cp.toInt32), .val (.int (1 : Int32))] []))
            refine Go.st (fun _ => XS.iload X330.here C.hx rfl (hb C.hby at_161) rfl) ?_
            show Go p e below s n0 _ _ _ (T330.setTop (mkF m 163 #[.val (.int xc), .val (.int xg), .val (.int xl), .val (.int ca), .val (.int cp.toInt32), .val (.int cu.toInt32), .val (.int lz), .val (.ref b323), .val (.ref a4_325), .val (.ref a4_329), .val (.int cp.toInt32), .val (.int (1 : Int32))] [(.int (1 : Int32))]))
            refine Go.if_eq C X330 (pc' := 178) at_163 (by decide) (by decide) (fun hc => absurd hc (by decide)) (fun _ => ?_)
            show Go p e below s n0 _ _ _ (T330.setTop (mkF m 166 #[.val (.int xc), .val (.int xg), .val (.int xl), .val (.int ca), .val (.int cp.toInt32), .val (.int cu.toInt32), .val (.int lz), .val (.ref b323), .val (.ref a4_325), .val (.ref a4_329), .val (.int cp.toInt32), .val (.int (1 : Int32))] []))
            refine Go.st (fun _ => XS.aload X330.here C.hx rfl (hb C.hby at_166) rfl rfl) ?_
            show Go p e below s n0 _ _ _ (T330.setTop (mkF m 168 #[.val (.int xc), .val (.int xg), .val (.int xl), .val (.int ca), .val (.int cp.toInt32), .val (.int cu.toInt32), .val (.int lz), .val (.ref b323), .val (.ref a4_325), .val (.ref a4_329), .val (.int cp.toInt32), .val (.int (1 : Int32))] [(.ref b323)]))
            refine Go.callV C X330 (W := 0) (argsL := []) (rest := []) (a := b323) (BB329).1 (wd 67 rfl) (wd 68 rfl) (wd 70 rfl) (wd 69 rfl) (wd 6 rfl) (wd 71 rfl) (by decide) rfl (con_records l Z a0 hw n0 h329 X330.size b323 a1_324 a2_324 a4_329 cp n_329 0 0 B326 F327 BB329) (by decide) (by decide) rfl (lenOf pd_11 rfl) (Nat.le_of_ble_eq_true rfl) rfl at_168 (by decide) (by decide) (fun T375 h375 v375 X375 hQ375 => ?_)
            obtain ⟨rfl, hh375⟩ := hQ375
            rw [hh375] at X375
            show Go p e below s n0 _ _ _ (T375.setTop (mkF m 171 #[.val (.int xc), .val (.int xg), .val (.int xl), .val (.int ca), .val (.int cp.toInt32), .val (.int cu.toInt32), .val (.int lz), .val (.ref b323), .val (.ref a4_325), .val (.ref a4_329), .val (.int cp.toInt32), .val (.int (1 : Int32))] [(.int (0 : Int32))]))
            refine Go.if_ne C X375 (pc' := 178) at_171 (by decide) (by decide) (fun hc => absurd hc (by decide)) (fun _ => ?_)
            show Go p e below s n0 _ _ _ (T375.setTop (mkF m 174 #[.val (.int xc), .val (.int xg), .val (.int xl), .val (.int ca), .val (.int cp.toInt32), .val (.int cu.toInt32), .val (.int lz), .val (.ref b323), .val (.ref a4_325), .val (.ref a4_329), .val (.int cp.toInt32), .val (.int (1 : Int32))] []))
            refine Go.st (fun _ => XS.iconst X375.here C.hx rfl (hb C.hby at_174)) ?_
            show Go p e below s n0 _ _ _ (T375.setTop (mkF m 175 #[.val (.int xc), .val (.int xg), .val (.int xl), .val (.int ca), .val (.int cp.toInt32), .val (.int cu.toInt32), .val (.int lz), .val (.ref b323), .val (.ref a4_325), .val (.ref a4_329), .val (.int cp.toInt32), .val (.int (1 : Int32))] [(.int (1 : Int32))]))
            refine Go.st (fun _ => XS.goto X375.here C.hx rfl (pc0 := 175) (pc' := 179) rfl (hb C.hby at_175) (by decide) (by decide)) ?_
            show Go p e below s n0 _ _ _ (T375.setTop (mkF m 179 #[.val (.int xc), .val (.int xg), .val (.int xl), .val (.int ca), .val (.int cp.toInt32), .val (.int cu.toInt32), .val (.int lz), .val (.ref b323), .val (.ref a4_325), .val (.ref a4_329), .val (.int cp.toInt32), .val (.int (1 : Int32))] [(.int (1 : Int32))]))
            refine Go.st (fun _ => XS.istore X375.here C.hx rfl (hb C.hby at_179) rfl (l' := #[.val (.int xc), .val (.int xg), .val (.int xl), .val (.int ca), .val (.int cp.toInt32), .val (.int cu.toInt32), .val (.int lz), .val (.ref b323), .val (.ref a4_325), .val (.ref a4_329), .val (.int cp.toInt32), .val (.int (1 : Int32))]) rfl) ?_
            show Go p e below s n0 _ _ _ (T375.setTop (mkF m 181 #[.val (.int xc), .val (.int xg), .val (.int xl), .val (.int ca), .val (.int cp.toInt32), .val (.int cu.toInt32), .val (.int lz), .val (.ref b323), .val (.ref a4_325), .val (.ref a4_329), .val (.int cp.toInt32), .val (.int (1 : Int32))] []))
            refine Go.st (fun _ => XS.aload X375.here C.hx rfl (hb C.hby at_181) rfl rfl) ?_
            show Go p e below s n0 _ _ _ (T375.setTop (mkF m 183 #[.val (.int xc), .val (.int xg), .val (.int xl), .val (.int ca), .val (.int cp.toInt32), .val (.int cu.toInt32), .val (.int lz), .val (.ref b323), .val (.ref a4_325), .val (.ref a4_329), .val (.int cp.toInt32), .val (.int (1 : Int32))] [(.ref b323)]))
            refine Go.st (fun _ => XS.iconst X375.here C.hx rfl (hb C.hby at_183)) ?_
            show Go p e below s n0 _ _ _ (T375.setTop (mkF m 184 #[.val (.int xc), .val (.int xg), .val (.int xl), .val (.int ca), .val (.int cp.toInt32), .val (.int cu.toInt32), .val (.int lz), .val (.ref b323), .val (.ref a4_325), .val (.ref a4_329), .val (.int cp.toInt32), .val (.int (1 : Int32))] [(.int (3 : Int32)), (.ref b323)]))
            refine Go.st (fun _ => XS.iconst X375.here C.hx rfl (hb C.hby at_184)) ?_
            show Go p e below s n0 _ _ _ (T375.setTop (mkF m 185 #[.val (.int xc), .val (.int xg), .val (.int xl), .val (.int ca), .val (.int cp.toInt32), .val (.int cu.toInt32), .val (.int lz), .val (.ref b323), .val (.ref a4_325), .val (.ref a4_329), .val (.int cp.toInt32), .val (.int (1 : Int32))] [(.int (5 : Int32)), (.int (3 : Int32)), (.ref b323)]))
            refine Go.callV C X375 (W := 0) (argsL := [(.int (3 : Int32)), (.int (5 : Int32))]) (rest := []) (a := b323) (BB329).1 (wd 43 rfl) (wd 44 rfl) (wd 46 rfl) (wd 45 rfl) (wd 6 rfl) (wd 47 rfl) (by decide) rfl (con_add l Z a0 hw n0 h329 X375.size b323 a1_324 a2_324 a4_329 cp n_329 (3 : Int32) (5 : Int32) 0 B326 F327 DD329 BB329) (by decide) (by decide) rfl (lenOf pd_7 rfl) (Nat.le_of_ble_eq_true rfl) rfl at_185 (by decide) (by decide) (fun T377 h377 v377 X377 hQ377 => ?_)
            obtain ⟨rfl, B377, BB377⟩ := hQ377
            show Go p e below s n0 _ _ _ (T377.setTop (mkF m 188 #[.val (.int xc), .val (.int xg), .val (.int xl), .val (.int ca), .val (.int cp.toInt32), .val (.int cu.toInt32), .val (.int lz), .val (.ref b323), .val (.ref a4_325), .val (.ref a4_329), .val (.int cp.toInt32), .val (.int (1 : Int32))] []))
            refine Go.st (fun _ => XS.aload X377.here C.hx rfl (hb C.hby at_188) rfl rfl) ?_
            show Go p e below s n0 _ _ _ (T377.setTop (mkF m 190 #[.val (.int xc), .val (.int xg), .val (.int xl), .val (.int ca), .val (.int cp.toInt32), .val (.int cu.toInt32), .val (.int lz), .val (.ref b323), .val (.ref a4_325), .val (.ref a4_329), .val (.int cp.toInt32), .val (.int (1 : Int32))] [(.ref b323)]))
            refine Go.callV C X377 (W := 0) (argsL := []) (rest := []) (a := b323) (BB377).1 (wd 50 rfl) (wd 51 rfl) (wd 53 rfl) (wd 52 rfl) (wd 6 rfl) (wd 54 rfl) (by decide) rfl (con_end l Z a0 hw n0 h377 X377.size b323 a1_324 a2_324 a4_329 cp n_329 B377 F327 DD329 BB377) (by decide) (by decide) rfl (lenOf pd_8 rfl) (Nat.le_of_ble_eq_true rfl) rfl at_190 (by decide) (by decide) (fun T378 h378 v378 X378 hQ378 => ?_)
            obtain ⟨rfl, F378, BB378⟩ := hQ378
            show Go p e below s n0 _ _ _ (T378.setTop (mkF m 193 #[.val (.int xc), .val (.int xg), .val (.int xl), .val (.int ca), .val (.int cp.toInt32), .val (.int cu.toInt32), .val (.int lz), .val (.ref b323), .val (.ref a4_325), .val (.ref a4_329), .val (.int cp.toInt32), .val (.int (1 : Int32))] []))
            refine Go.st (fun _ => XS.iload X378.here C.hx rfl (hb C.hby at_193) rfl) ?_
            show Go p e below s n0 _ _ _ (T378.setTop (mkF m 195 #[.val (.int xc), .val (.int xg), .val (.int xl), .val (.int ca), .val (.int cp.toInt32), .val (.int cu.toInt32), .val (.int lz), .val (.ref b323), .val (.ref a4_325), .val (.ref a4_329), .val (.int cp.toInt32), .val (.int (1 : Int32))] [(.int (1 : Int32))]))
            refine Go.if_eq C X378 (pc' := 212) at_195 (by decide) (by decide) (fun hc => absurd hc (by decide)) (fun _ => ?_)
            show Go p e below s n0 _ _ _ (T378.setTop (mkF m 198 #[.val (.int xc), .val (.int xg), .val (.int xl), .val (.int ca), .val (.int cp.toInt32), .val (.int cu.toInt32), .val (.int lz), .val (.ref b323), .val (.ref a4_325), .val (.ref a4_329), .val (.int cp.toInt32), .val (.int (1 : Int32))] []))
            refine Go.st (fun _ => XS.aload X378.here C.hx rfl (hb C.hby at_198) rfl rfl) ?_
            show Go p e below s n0 _ _ _ (T378.setTop (mkF m 200 #[.val (.int xc), .val (.int xg), .val (.int xl), .val (.int ca), .val (.int cp.toInt32), .val (.int cu.toInt32), .val (.int lz), .val (.ref b323), .val (.ref a4_325), .val (.ref a4_329), .val (.int cp.toInt32), .val (.int (1 : Int32))] [(.ref b323)]))
            refine Go.st (fun _ => XS.iconst X378.here C.hx rfl (hb C.hby at_200)) ?_
            show Go p e below s n0 _ _ _ (T378.setTop (mkF m 201 #[.val (.int xc), .val (.int xg), .val (.int xl), .val (.int ca), .val (.int cp.toInt32), .val (.int cu.toInt32), .val (.int lz), .val (.ref b323), .val (.ref a4_325), .val (.ref a4_329), .val (.int cp.toInt32), .val (.int (1 : Int32))] [(.int (0 : Int32)), (.ref b323)]))
            refine Go.callV C X378 (W := 0) (argsL := [(.int (0 : Int32))]) (rest := []) (a := b323) (BB378).1 (wd 72 rfl) (wd 73 rfl) (wd 75 rfl) (wd 74 rfl) (wd 6 rfl) (wd 76 rfl) (by decide) rfl (con_fields l Z a0 hw n0 h378 X378.size b323 a1_324 a2_324 a4_329 cp n_329 1 B377 F378 BB378) (by decide) (by decide) rfl (lenOf pd_12 rfl) (Nat.le_of_ble_eq_true rfl) rfl at_201 (by decide) (by decide) (fun T380 h380 v380 X380 hQ380 => ?_)
            obtain ⟨rfl, hh380⟩ := hQ380
            rw [hh380] at X380
            show Go p e below s n0 _ _ _ (T380.setTop (mkF m 204 #[.val (.int xc), .val (.int xg), .val (.int xl), .val (.int ca), .val (.int cp.toInt32), .val (.int cu.toInt32), .val (.int lz), .val (.ref b323), .val (.ref a4_325), .val (.ref a4_329), .val (.int cp.toInt32), .val (.int (1 : Int32))] [(.int (1 : Int32))]))
            refine Go.st (fun _ => XS.iconst X380.here C.hx rfl (hb C.hby at_204)) ?_
            show Go p e below s n0 _ _ _ (T380.setTop (mkF m 205 #[.val (.int xc), .val (.int xg), .val (.int xl), .val (.int ca), .val (.int cp.toInt32), .val (.int cu.toInt32), .val (.int lz), .val (.ref b323), .val (.ref a4_325), .val (.ref a4_329), .val (.int cp.toInt32), .val (.int (1 : Int32))] [(.int (1 : Int32)), (.int (1 : Int32))]))
            refine Go.icmp_ne C X380 (pc' := 212) at_205 (by decide) (by decide) (fun hc => absurd hc (by decide)) (fun _ => ?_)
            show Go p e below s n0 _ _ _ (T380.setTop (mkF m 208 #[.val (.int xc), .val (.int xg), .val (.int xl), .val (.int ca), .val (.int cp.toInt32), .val (.int cu.toInt32), .val (.int lz), .val (.ref b323), .val (.ref a4_325), .val (.ref a4_329), .val (.int cp.toInt32), .val (.int (1 : Int32))] []))
            refine Go.st (fun _ => XS.iconst X380.here C.hx rfl (hb C.hby at_208)) ?_
            show Go p e below s n0 _ _ _ (T380.setTop (mkF m 209 #[.val (.int xc), .val (.int xg), .val (.int xl), .val (.int ca), .val (.int cp.toInt32), .val (.int cu.toInt32), .val (.int lz), .val (.ref b323), .val (.ref a4_325), .val (.ref a4_329), .val (.int cp.toInt32), .val (.int (1 : Int32))] [(.int (1 : Int32))]))
            refine Go.st (fun _ => XS.goto X380.here C.hx rfl (pc0 := 209) (pc' := 213) rfl (hb C.hby at_209) (by decide) (by decide)) ?_
            show Go p e below s n0 _ _ _ (T380.setTop (mkF m 213 #[.val (.int xc), .val (.int xg), .val (.int xl), .val (.int ca), .val (.int cp.toInt32), .val (.int cu.toInt32), .val (.int lz), .val (.ref b323), .val (.ref a4_325), .val (.ref a4_329), .val (.int cp.toInt32), .val (.int (1 : Int32))] [(.int (1 : Int32))]))
            exact Go.retZ C X380 (by decide) at_213 rfl (by decide) (by decide)
  · show Go p e below s n0 _ _ _ (T330.setTop (mkF m 87 #[.val (.int xc), .val (.int xg), .val (.int xl), .val (.int ca), .val (.int cp.toInt32), .val (.int cu.toInt32), .val (.int lz), .val (.ref b323), .val (.ref a4_325), .val (.ref a4_329), .unset, .unset] []))
    refine Go.st (fun _ => XS.iload X330.here C.hx rfl (hb C.hby at_87) rfl) ?_
    show Go p e below s n0 _ _ _ (T330.setTop (mkF m 89 #[.val (.int xc), .val (.int xg), .val (.int xl), .val (.int ca), .val (.int cp.toInt32), .val (.int cu.toInt32), .val (.int lz), .val (.ref b323), .val (.ref a4_325), .val (.ref a4_329), .unset, .unset] [(.int lz)]))
    refine Go.st (fun _ => XS.istore X330.here C.hx rfl (hb C.hby at_89) rfl (l' := #[.val (.int xc), .val (.int xg), .val (.int xl), .val (.int ca), .val (.int cp.toInt32), .val (.int cu.toInt32), .val (.int lz), .val (.ref b323), .val (.ref a4_325), .val (.ref a4_329), .val (.int lz), .unset]) rfl) ?_
    show Go p e below s n0 _ _ _ (T330.setTop (mkF m 91 #[.val (.int xc), .val (.int xg), .val (.int xl), .val (.int ca), .val (.int cp.toInt32), .val (.int cu.toInt32), .val (.int lz), .val (.ref b323), .val (.ref a4_325), .val (.ref a4_329), .val (.int lz), .unset] []))
    refine Go.st (fun _ => XS.goto X330.here C.hx rfl (pc0 := 91) (pc' := 119) rfl (hb C.hby at_91) (by decide) (by decide)) ?_
    show Go p e below s n0 _ _ _ (T330.setTop (mkF m 119 #[.val (.int xc), .val (.int xg), .val (.int xl), .val (.int ca), .val (.int cp.toInt32), .val (.int cu.toInt32), .val (.int lz), .val (.ref b323), .val (.ref a4_325), .val (.ref a4_329), .val (.int lz), .unset] []))
    refine Go.st (fun _ => XS.aload X330.here C.hx rfl (hb C.hby at_119) rfl rfl) ?_
    show Go p e below s n0 _ _ _ (T330.setTop (mkF m 121 #[.val (.int xc), .val (.int xg), .val (.int xl), .val (.int ca), .val (.int cp.toInt32), .val (.int cu.toInt32), .val (.int lz), .val (.ref b323), .val (.ref a4_325), .val (.ref a4_329), .val (.int lz), .unset] [(.ref a4_329)]))
    refine Go.alen C X330 (BB329).2.2.2.2.2.2.2.2.2.1 (z := n_329.toInt32) (by unfold Z0L; rw [List.length_replicate]) at_121 ?_
    show Go p e below s n0 _ _ _ (T330.setTop (mkF m 122 #[.val (.int xc), .val (.int xg), .val (.int xl), .val (.int ca), .val (.int cp.toInt32), .val (.int cu.toInt32), .val (.int lz), .val (.ref b323), .val (.ref a4_325), .val (.ref a4_329), .val (.int lz), .unset] [(.int n_329.toInt32)]))
    refine Go.st (fun _ => XS.iload X330.here C.hx rfl (hb C.hby at_122) rfl) ?_
    show Go p e below s n0 _ _ _ (T330.setTop (mkF m 124 #[.val (.int xc), .val (.int xg), .val (.int xl), .val (.int ca), .val (.int cp.toInt32), .val (.int cu.toInt32), .val (.int lz), .val (.ref b323), .val (.ref a4_325), .val (.ref a4_329), .val (.int lz), .unset] [(.int lz), (.int n_329.toInt32)]))
    refine Go.icmp_ne C X330 (pc' := 158) at_124 (by decide) (by decide) (fun hc => by first | exact absurd hc (show n_329.toInt32 = lz from by rw [ex329]; simp [hc84_331]) | exact absurd (show n_329.toInt32 = lz from by rw [ex329]; simp [hc84_331]) hc) (fun _ => ?_)
    show Go p e below s n0 _ _ _ (T330.setTop (mkF m 127 #[.val (.int xc), .val (.int xg), .val (.int xl), .val (.int ca), .val (.int cp.toInt32), .val (.int cu.toInt32), .val (.int lz), .val (.ref b323), .val (.ref a4_325), .val (.ref a4_329), .val (.int lz), .unset] []))
    refine Go.st (fun _ => XS.aload X330.here C.hx rfl (hb C.hby at_127) rfl rfl) ?_
    show Go p e below s n0 _ _ _ (T330.setTop (mkF m 129 #[.val (.int xc), .val (.int xg), .val (.int xl), .val (.int ca), .val (.int cp.toInt32), .val (.int cu.toInt32), .val (.int lz), .val (.ref b323), .val (.ref a4_325), .val (.ref a4_329), .val (.int lz), .unset] [(.ref a4_329)]))
    refine Go.st (fun _ => XS.aload X330.here C.hx rfl (hb C.hby at_129) rfl rfl) ?_
    show Go p e below s n0 _ _ _ (T330.setTop (mkF m 131 #[.val (.int xc), .val (.int xg), .val (.int xl), .val (.int ca), .val (.int cp.toInt32), .val (.int cu.toInt32), .val (.int lz), .val (.ref b323), .val (.ref a4_325), .val (.ref a4_329), .val (.int lz), .unset] [(.ref a4_325), (.ref a4_329)]))
    refine Go.acmp_ne C X330 (pc' := 138) rfl rfl at_131 (by decide) (by decide) (fun hc131_383 => ?_) (fun hc131_383 => ?_)
    · show Go p e below s n0 _ _ _ (T330.setTop (mkF m 138 #[.val (.int xc), .val (.int xg), .val (.int xl), .val (.int ca), .val (.int cp.toInt32), .val (.int cu.toInt32), .val (.int lz), .val (.ref b323), .val (.ref a4_325), .val (.ref a4_329), .val (.int lz), .unset] []))
      refine Go.st (fun _ => XS.iconst X330.here C.hx rfl (hb C.hby at_138)) ?_
      show Go p e below s n0 _ _ _ (T330.setTop (mkF m 139 #[.val (.int xc), .val (.int xg), .val (.int xl), .val (.int ca), .val (.int cp.toInt32), .val (.int cu.toInt32), .val (.int lz), .val (.ref b323), .val (.ref a4_325), .val (.ref a4_329), .val (.int lz), .unset] [(.int (0 : Int32))]))
      refine Go.st (fun _ => XS.iload X330.here C.hx rfl (hb C.hby at_139) rfl) ?_
      show Go p e below s n0 _ _ _ (T330.setTop (mkF m 141 #[.val (.int xc), .val (.int xg), .val (.int xl), .val (.int ca), .val (.int cp.toInt32), .val (.int cu.toInt32), .val (.int lz), .val (.ref b323), .val (.ref a4_325), .val (.ref a4_329), .val (.int lz), .unset] [(.int lz), (.int (0 : Int32))]))
      refine Go.st (fun _ => XS.iload X330.here C.hx rfl (hb C.hby at_141) rfl) ?_
      show Go p e below s n0 _ _ _ (T330.setTop (mkF m 143 #[.val (.int xc), .val (.int xg), .val (.int xl), .val (.int ca), .val (.int cp.toInt32), .val (.int cu.toInt32), .val (.int lz), .val (.ref b323), .val (.ref a4_325), .val (.ref a4_329), .val (.int lz), .unset] [(.int cu.toInt32), (.int lz), (.int (0 : Int32))]))
      refine Go.icmp_ne C X330 (pc' := 150) at_143 (by decide) (by decide) (fun hc143_384 => ?_) (fun hc143_384 => ?_)
      · show Go p e below s n0 _ _ _ (T330.setTop (mkF m 150 #[.val (.int xc), .val (.int xg), .val (.int xl), .val (.int ca), .val (.int cp.toInt32), .val (.int cu.toInt32), .val (.int lz), .val (.ref b323), .val (.ref a4_325), .val (.ref a4_329), .val (.int lz), .unset] [(.int (0 : Int32))]))
        refine Go.st (fun _ => XS.iconst X330.here C.hx rfl (hb C.hby at_150)) ?_
        show Go p e below s n0 _ _ _ (T330.setTop (mkF m 151 #[.val (.int xc), .val (.int xg), .val (.int xl), .val (.int ca), .val (.int cp.toInt32), .val (.int cu.toInt32), .val (.int lz), .val (.ref b323), .val (.ref a4_325), .val (.ref a4_329), .val (.int lz), .unset] [(.int (0 : Int32)), (.int (0 : Int32))]))
        refine Go.icmp_ne C X330 (pc' := 158) at_151 (by decide) (by decide) (fun hc => absurd hc (by decide)) (fun _ => ?_)
        show Go p e below s n0 _ _ _ (T330.setTop (mkF m 154 #[.val (.int xc), .val (.int xg), .val (.int xl), .val (.int ca), .val (.int cp.toInt32), .val (.int cu.toInt32), .val (.int lz), .val (.ref b323), .val (.ref a4_325), .val (.ref a4_329), .val (.int lz), .unset] []))
        refine Go.st (fun _ => XS.iconst X330.here C.hx rfl (hb C.hby at_154)) ?_
        show Go p e below s n0 _ _ _ (T330.setTop (mkF m 155 #[.val (.int xc), .val (.int xg), .val (.int xl), .val (.int ca), .val (.int cp.toInt32), .val (.int cu.toInt32), .val (.int lz), .val (.ref b323), .val (.ref a4_325), .val (.ref a4_329), .val (.int lz), .unset] [(.int (1 : Int32))]))
        refine Go.st (fun _ => XS.goto X330.here C.hx rfl (pc0 := 155) (pc' := 159) rfl (hb C.hby at_155) (by decide) (by decide)) ?_
        show Go p e below s n0 _ _ _ (T330.setTop (mkF m 159 #[.val (.int xc), .val (.int xg), .val (.int xl), .val (.int ca), .val (.int cp.toInt32), .val (.int cu.toInt32), .val (.int lz), .val (.ref b323), .val (.ref a4_325), .val (.ref a4_329), .val (.int lz), .unset] [(.int (1 : Int32))]))
        refine Go.st (fun _ => XS.istore X330.here C.hx rfl (hb C.hby at_159) rfl (l' := #[.val (.int xc), .val (.int xg), .val (.int xl), .val (.int ca), .val (.int cp.toInt32), .val (.int cu.toInt32), .val (.int lz), .val (.ref b323), .val (.ref a4_325), .val (.ref a4_329), .val (.int lz), .val (.int (1 : Int32))]) rfl) ?_
        show Go p e below s n0 _ _ _ (T330.setTop (mkF m 161 #[.val (.int xc), .val (.int xg), .val (.int xl), .val (.int ca), .val (.int cp.toInt32), .val (.int cu.toInt32), .val (.int lz), .val (.ref b323), .val (.ref a4_325), .val (.ref a4_329), .val (.int lz), .val (.int (1 : Int32))] []))
        refine Go.st (fun _ => XS.iload X330.here C.hx rfl (hb C.hby at_161) rfl) ?_
        show Go p e below s n0 _ _ _ (T330.setTop (mkF m 163 #[.val (.int xc), .val (.int xg), .val (.int xl), .val (.int ca), .val (.int cp.toInt32), .val (.int cu.toInt32), .val (.int lz), .val (.ref b323), .val (.ref a4_325), .val (.ref a4_329), .val (.int lz), .val (.int (1 : Int32))] [(.int (1 : Int32))]))
        refine Go.if_eq C X330 (pc' := 178) at_163 (by decide) (by decide) (fun hc => absurd hc (by decide)) (fun _ => ?_)
        show Go p e below s n0 _ _ _ (T330.setTop (mkF m 166 #[.val (.int xc), .val (.int xg), .val (.int xl), .val (.int ca), .val (.int cp.toInt32), .val (.int cu.toInt32), .val (.int lz), .val (.ref b323), .val (.ref a4_325), .val (.ref a4_329), .val (.int lz), .val (.int (1 : Int32))] []))
        refine Go.st (fun _ => XS.aload X330.here C.hx rfl (hb C.hby at_166) rfl rfl) ?_
        show Go p e below s n0 _ _ _ (T330.setTop (mkF m 168 #[.val (.int xc), .val (.int xg), .val (.int xl), .val (.int ca), .val (.int cp.toInt32), .val (.int cu.toInt32), .val (.int lz), .val (.ref b323), .val (.ref a4_325), .val (.ref a4_329), .val (.int lz), .val (.int (1 : Int32))] [(.ref b323)]))
        refine Go.callV C X330 (W := 0) (argsL := []) (rest := []) (a := b323) (BB329).1 (wd 67 rfl) (wd 68 rfl) (wd 70 rfl) (wd 69 rfl) (wd 6 rfl) (wd 71 rfl) (by decide) rfl (con_records l Z a0 hw n0 h329 X330.size b323 a1_324 a2_324 a4_329 cp n_329 0 0 B326 F327 BB329) (by decide) (by decide) rfl (lenOf pd_11 rfl) (Nat.le_of_ble_eq_true rfl) rfl at_168 (by decide) (by decide) (fun T387 h387 v387 X387 hQ387 => ?_)
        obtain ⟨rfl, hh387⟩ := hQ387
        rw [hh387] at X387
        show Go p e below s n0 _ _ _ (T387.setTop (mkF m 171 #[.val (.int xc), .val (.int xg), .val (.int xl), .val (.int ca), .val (.int cp.toInt32), .val (.int cu.toInt32), .val (.int lz), .val (.ref b323), .val (.ref a4_325), .val (.ref a4_329), .val (.int lz), .val (.int (1 : Int32))] [(.int (0 : Int32))]))
        refine Go.if_ne C X387 (pc' := 178) at_171 (by decide) (by decide) (fun hc => absurd hc (by decide)) (fun _ => ?_)
        show Go p e below s n0 _ _ _ (T387.setTop (mkF m 174 #[.val (.int xc), .val (.int xg), .val (.int xl), .val (.int ca), .val (.int cp.toInt32), .val (.int cu.toInt32), .val (.int lz), .val (.ref b323), .val (.ref a4_325), .val (.ref a4_329), .val (.int lz), .val (.int (1 : Int32))] []))
        refine Go.st (fun _ => XS.iconst X387.here C.hx rfl (hb C.hby at_174)) ?_
        show Go p e below s n0 _ _ _ (T387.setTop (mkF m 175 #[.val (.int xc), .val (.int xg), .val (.int xl), .val (.int ca), .val (.int cp.toInt32), .val (.int cu.toInt32), .val (.int lz), .val (.ref b323), .val (.ref a4_325), .val (.ref a4_329), .val (.int lz), .val (.int (1 : Int32))] [(.int (1 : Int32))]))
        refine Go.st (fun _ => XS.goto X387.here C.hx rfl (pc0 := 175) (pc' := 179) rfl (hb C.hby at_175) (by decide) (by decide)) ?_
        show Go p e below s n0 _ _ _ (T387.setTop (mkF m 179 #[.val (.int xc), .val (.int xg), .val (.int xl), .val (.int ca), .val (.int cp.toInt32), .val (.int cu.toInt32), .val (.int lz), .val (.ref b323), .val (.ref a4_325), .val (.ref a4_329), .val (.int lz), .val (.int (1 : Int32))] [(.int (1 : Int32))]))
        refine Go.st (fun _ => XS.istore X387.here C.hx rfl (hb C.hby at_179) rfl (l' := #[.val (.int xc), .val (.int xg), .val (.int xl), .val (.int ca), .val (.int cp.toInt32), .val (.int cu.toInt32), .val (.int lz), .val (.ref b323), .val (.ref a4_325), .val (.ref a4_329), .val (.int lz), .val (.int (1 : Int32))]) rfl) ?_
        show Go p e below s n0 _ _ _ (T387.setTop (mkF m 181 #[.val (.int xc), .val (.int xg), .val (.int xl), .val (.int ca), .val (.int cp.toInt32), .val (.int cu.toInt32), .val (.int lz), .val (.ref b323), .val (.ref a4_325), .val (.ref a4_329), .val (.int lz), .val (.int (1 : Int32))] []))
        refine Go.st (fun _ => XS.aload X387.here C.hx rfl (hb C.hby at_181) rfl rfl) ?_
        show Go p e below s n0 _ _ _ (T387.setTop (mkF m 183 #[.val (.int xc), .val (.int xg), .val (.int xl), .val (.int ca), .val (.int cp.toInt32), .val (.int cu.toInt32), .val (.int lz), .val (.ref b323), .val (.ref a4_325), .val (.ref a4_329), .val (.int lz), .val (.int (1 : Int32))] [(.ref b323)]))
        refine Go.st (fun _ => XS.iconst X387.here C.hx rfl (hb C.hby at_183)) ?_
        show Go p e below s n0 _ _ _ (T387.setTop (mkF m 184 #[.val (.int xc), .val (.int xg), .val (.int xl), .val (.int ca), .val (.int cp.toInt32), .val (.int cu.toInt32), .val (.int lz), .val (.ref b323), .val (.ref a4_325), .val (.ref a4_329), .val (.int lz), .val (.int (1 : Int32))] [(.int (3 : Int32)), (.ref b323)]))
        refine Go.st (fun _ => XS.iconst X387.here C.hx rfl (hb C.hby at_184)) ?_
        show Go p e below s n0 _ _ _ (T387.setTop (mkF m 185 #[.val (.int xc), .val (.int xg), .val (.int xl), .val (.int ca), .val (.int cp.toInt32), .val (.int cu.toInt32), .val (.int lz), .val (.ref b323), .val (.ref a4_325), .val (.ref a4_329), .val (.int lz), .val (.int (1 : Int32))] [(.int (5 : Int32)), (.int (3 : Int32)), (.ref b323)]))
        refine Go.callV C X387 (W := 0) (argsL := [(.int (3 : Int32)), (.int (5 : Int32))]) (rest := []) (a := b323) (BB329).1 (wd 43 rfl) (wd 44 rfl) (wd 46 rfl) (wd 45 rfl) (wd 6 rfl) (wd 47 rfl) (by decide) rfl (con_add l Z a0 hw n0 h329 X387.size b323 a1_324 a2_324 a4_329 cp n_329 (3 : Int32) (5 : Int32) 0 B326 F327 DD329 BB329) (by decide) (by decide) rfl (lenOf pd_7 rfl) (Nat.le_of_ble_eq_true rfl) rfl at_185 (by decide) (by decide) (fun T389 h389 v389 X389 hQ389 => ?_)
        obtain ⟨rfl, B389, BB389⟩ := hQ389
        show Go p e below s n0 _ _ _ (T389.setTop (mkF m 188 #[.val (.int xc), .val (.int xg), .val (.int xl), .val (.int ca), .val (.int cp.toInt32), .val (.int cu.toInt32), .val (.int lz), .val (.ref b323), .val (.ref a4_325), .val (.ref a4_329), .val (.int lz), .val (.int (1 : Int32))] []))
        refine Go.st (fun _ => XS.aload X389.here C.hx rfl (hb C.hby at_188) rfl rfl) ?_
        show Go p e below s n0 _ _ _ (T389.setTop (mkF m 190 #[.val (.int xc), .val (.int xg), .val (.int xl), .val (.int ca), .val (.int cp.toInt32), .val (.int cu.toInt32), .val (.int lz), .val (.ref b323), .val (.ref a4_325), .val (.ref a4_329), .val (.int lz), .val (.int (1 : Int32))] [(.ref b323)]))
        refine Go.callV C X389 (W := 0) (argsL := []) (rest := []) (a := b323) (BB389).1 (wd 50 rfl) (wd 51 rfl) (wd 53 rfl) (wd 52 rfl) (wd 6 rfl) (wd 54 rfl) (by decide) rfl (con_end l Z a0 hw n0 h389 X389.size b323 a1_324 a2_324 a4_329 cp n_329 B389 F327 DD329 BB389) (by decide) (by decide) rfl (lenOf pd_8 rfl) (Nat.le_of_ble_eq_true rfl) rfl at_190 (by decide) (by decide) (fun T390 h390 v390 X390 hQ390 => ?_)
        obtain ⟨rfl, F390, BB390⟩ := hQ390
        show Go p e below s n0 _ _ _ (T390.setTop (mkF m 193 #[.val (.int xc), .val (.int xg), .val (.int xl), .val (.int ca), .val (.int cp.toInt32), .val (.int cu.toInt32), .val (.int lz), .val (.ref b323), .val (.ref a4_325), .val (.ref a4_329), .val (.int lz), .val (.int (1 : Int32))] []))
        refine Go.st (fun _ => XS.iload X390.here C.hx rfl (hb C.hby at_193) rfl) ?_
        show Go p e below s n0 _ _ _ (T390.setTop (mkF m 195 #[.val (.int xc), .val (.int xg), .val (.int xl), .val (.int ca), .val (.int cp.toInt32), .val (.int cu.toInt32), .val (.int lz), .val (.ref b323), .val (.ref a4_325), .val (.ref a4_329), .val (.int lz), .val (.int (1 : Int32))] [(.int (1 : Int32))]))
        refine Go.if_eq C X390 (pc' := 212) at_195 (by decide) (by decide) (fun hc => absurd hc (by decide)) (fun _ => ?_)
        show Go p e below s n0 _ _ _ (T390.setTop (mkF m 198 #[.val (.int xc), .val (.int xg), .val (.int xl), .val (.int ca), .val (.int cp.toInt32), .val (.int cu.toInt32), .val (.int lz), .val (.ref b323), .val (.ref a4_325), .val (.ref a4_329), .val (.int lz), .val (.int (1 : Int32))] []))
        refine Go.st (fun _ => XS.aload X390.here C.hx rfl (hb C.hby at_198) rfl rfl) ?_
        show Go p e below s n0 _ _ _ (T390.setTop (mkF m 200 #[.val (.int xc), .val (.int xg), .val (.int xl), .val (.int ca), .val (.int cp.toInt32), .val (.int cu.toInt32), .val (.int lz), .val (.ref b323), .val (.ref a4_325), .val (.ref a4_329), .val (.int lz), .val (.int (1 : Int32))] [(.ref b323)]))
        refine Go.st (fun _ => XS.iconst X390.here C.hx rfl (hb C.hby at_200)) ?_
        show Go p e below s n0 _ _ _ (T390.setTop (mkF m 201 #[.val (.int xc), .val (.int xg), .val (.int xl), .val (.int ca), .val (.int cp.toInt32), .val (.int cu.toInt32), .val (.int lz), .val (.ref b323), .val (.ref a4_325), .val (.ref a4_329), .val (.int lz), .val (.int (1 : Int32))] [(.int (0 : Int32)), (.ref b323)]))
        refine Go.callV C X390 (W := 0) (argsL := [(.int (0 : Int32))]) (rest := []) (a := b323) (BB390).1 (wd 72 rfl) (wd 73 rfl) (wd 75 rfl) (wd 74 rfl) (wd 6 rfl) (wd 76 rfl) (by decide) rfl (con_fields l Z a0 hw n0 h390 X390.size b323 a1_324 a2_324 a4_329 cp n_329 1 B389 F390 BB390) (by decide) (by decide) rfl (lenOf pd_12 rfl) (Nat.le_of_ble_eq_true rfl) rfl at_201 (by decide) (by decide) (fun T392 h392 v392 X392 hQ392 => ?_)
        obtain ⟨rfl, hh392⟩ := hQ392
        rw [hh392] at X392
        show Go p e below s n0 _ _ _ (T392.setTop (mkF m 204 #[.val (.int xc), .val (.int xg), .val (.int xl), .val (.int ca), .val (.int cp.toInt32), .val (.int cu.toInt32), .val (.int lz), .val (.ref b323), .val (.ref a4_325), .val (.ref a4_329), .val (.int lz), .val (.int (1 : Int32))] [(.int (1 : Int32))]))
        refine Go.st (fun _ => XS.iconst X392.here C.hx rfl (hb C.hby at_204)) ?_
        show Go p e below s n0 _ _ _ (T392.setTop (mkF m 205 #[.val (.int xc), .val (.int xg), .val (.int xl), .val (.int ca), .val (.int cp.toInt32), .val (.int cu.toInt32), .val (.int lz), .val (.ref b323), .val (.ref a4_325), .val (.ref a4_329), .val (.int lz), .val (.int (1 : Int32))] [(.int (1 : Int32)), (.int (1 : Int32))]))
        refine Go.icmp_ne C X392 (pc' := 212) at_205 (by decide) (by decide) (fun hc => absurd hc (by decide)) (fun _ => ?_)
        show Go p e below s n0 _ _ _ (T392.setTop (mkF m 208 #[.val (.int xc), .val (.int xg), .val (.int xl), .val (.int ca), .val (.int cp.toInt32), .val (.int cu.toInt32), .val (.int lz), .val (.ref b323), .val (.ref a4_325), .val (.ref a4_329), .val (.int lz), .val (.int (1 : Int32))] []))
        refine Go.st (fun _ => XS.iconst X392.here C.hx rfl (hb C.hby at_208)) ?_
        show Go p e below s n0 _ _ _ (T392.setTop (mkF m 209 #[.val (.int xc), .val (.int xg), .val (.int xl), .val (.int ca), .val (.int cp.toInt32), .val (.int cu.toInt32), .val (.int lz), .val (.ref b323), .val (.ref a4_325), .val (.ref a4_329), .val (.int lz), .val (.int (1 : Int32))] [(.int (1 : Int32))]))
        refine Go.st (fun _ => XS.goto X392.here C.hx rfl (pc0 := 209) (pc' := 213) rfl (hb C.hby at_209) (by decide) (by decide)) ?_
        show Go p e below s n0 _ _ _ (T392.setTop (mkF m 213 #[.val (.int xc), .val (.int xg), .val (.int xl), .val (.int ca), .val (.int cp.toInt32), .val (.int cu.toInt32), .val (.int lz), .val (.ref b323), .val (.ref a4_325), .val (.ref a4_329), .val (.int lz), .val (.int (1 : Int32))] [(.int (1 : Int32))]))
        exact Go.retZ C X392 (by decide) at_213 rfl (by decide) (by decide)
      · show Go p e below s n0 _ _ _ (T330.setTop (mkF m 146 #[.val (.int xc), .val (.int xg), .val (.int xl), .val (.int ca), .val (.int cp.toInt32), .val (.int cu.toInt32), .val (.int lz), .val (.ref b323), .val (.ref a4_325), .val (.ref a4_329), .val (.int lz), .unset] [(.int (0 : Int32))]))
        refine Go.st (fun _ => XS.iconst X330.here C.hx rfl (hb C.hby at_146)) ?_
        show Go p e below s n0 _ _ _ (T330.setTop (mkF m 147 #[.val (.int xc), .val (.int xg), .val (.int xl), .val (.int ca), .val (.int cp.toInt32), .val (.int cu.toInt32), .val (.int lz), .val (.ref b323), .val (.ref a4_325), .val (.ref a4_329), .val (.int lz), .unset] [(.int (1 : Int32)), (.int (0 : Int32))]))
        refine Go.st (fun _ => XS.goto X330.here C.hx rfl (pc0 := 147) (pc' := 151) rfl (hb C.hby at_147) (by decide) (by decide)) ?_
        exfalso
        have e1 : n_329.toInt32 = lz := by rw [ex329]; simp [hc84_331]
        exact hc131_383 (congrArg Value.ref ((if329).mpr ((eqI (by omega) (by omega)).mp (e1.trans hc143_384))))
    · show Go p e below s n0 _ _ _ (T330.setTop (mkF m 134 #[.val (.int xc), .val (.int xg), .val (.int xl), .val (.int ca), .val (.int cp.toInt32), .val (.int cu.toInt32), .val (.int lz), .val (.ref b323), .val (.ref a4_325), .val (.ref a4_329), .val (.int lz), .unset] []))
      refine Go.st (fun _ => XS.iconst X330.here C.hx rfl (hb C.hby at_134)) ?_
      show Go p e below s n0 _ _ _ (T330.setTop (mkF m 135 #[.val (.int xc), .val (.int xg), .val (.int xl), .val (.int ca), .val (.int cp.toInt32), .val (.int cu.toInt32), .val (.int lz), .val (.ref b323), .val (.ref a4_325), .val (.ref a4_329), .val (.int lz), .unset] [(.int (1 : Int32))]))
      refine Go.st (fun _ => XS.goto X330.here C.hx rfl (pc0 := 135) (pc' := 139) rfl (hb C.hby at_135) (by decide) (by decide)) ?_
      show Go p e below s n0 _ _ _ (T330.setTop (mkF m 139 #[.val (.int xc), .val (.int xg), .val (.int xl), .val (.int ca), .val (.int cp.toInt32), .val (.int cu.toInt32), .val (.int lz), .val (.ref b323), .val (.ref a4_325), .val (.ref a4_329), .val (.int lz), .unset] [(.int (1 : Int32))]))
      refine Go.st (fun _ => XS.iload X330.here C.hx rfl (hb C.hby at_139) rfl) ?_
      show Go p e below s n0 _ _ _ (T330.setTop (mkF m 141 #[.val (.int xc), .val (.int xg), .val (.int xl), .val (.int ca), .val (.int cp.toInt32), .val (.int cu.toInt32), .val (.int lz), .val (.ref b323), .val (.ref a4_325), .val (.ref a4_329), .val (.int lz), .unset] [(.int lz), (.int (1 : Int32))]))
      refine Go.st (fun _ => XS.iload X330.here C.hx rfl (hb C.hby at_141) rfl) ?_
      show Go p e below s n0 _ _ _ (T330.setTop (mkF m 143 #[.val (.int xc), .val (.int xg), .val (.int xl), .val (.int ca), .val (.int cp.toInt32), .val (.int cu.toInt32), .val (.int lz), .val (.ref b323), .val (.ref a4_325), .val (.ref a4_329), .val (.int lz), .unset] [(.int cu.toInt32), (.int lz), (.int (1 : Int32))]))
      refine Go.icmp_ne C X330 (pc' := 150) at_143 (by decide) (by decide) (fun hc143_394 => ?_) (fun hc143_394 => ?_)
      · show Go p e below s n0 _ _ _ (T330.setTop (mkF m 150 #[.val (.int xc), .val (.int xg), .val (.int xl), .val (.int ca), .val (.int cp.toInt32), .val (.int cu.toInt32), .val (.int lz), .val (.ref b323), .val (.ref a4_325), .val (.ref a4_329), .val (.int lz), .unset] [(.int (1 : Int32))]))
        refine Go.st (fun _ => XS.iconst X330.here C.hx rfl (hb C.hby at_150)) ?_
        exfalso
        have e1 : n_329.toInt32 = lz := by rw [ex329]; simp [hc84_331]
        have e2 := (if329).mp (Value.ref.inj hc131_383)
        exact hc143_394 (by rw [← e1, e2])
      · show Go p e below s n0 _ _ _ (T330.setTop (mkF m 146 #[.val (.int xc), .val (.int xg), .val (.int xl), .val (.int ca), .val (.int cp.toInt32), .val (.int cu.toInt32), .val (.int lz), .val (.ref b323), .val (.ref a4_325), .val (.ref a4_329), .val (.int lz), .unset] [(.int (1 : Int32))]))
        refine Go.st (fun _ => XS.iconst X330.here C.hx rfl (hb C.hby at_146)) ?_
        show Go p e below s n0 _ _ _ (T330.setTop (mkF m 147 #[.val (.int xc), .val (.int xg), .val (.int xl), .val (.int ca), .val (.int cp.toInt32), .val (.int cu.toInt32), .val (.int lz), .val (.ref b323), .val (.ref a4_325), .val (.ref a4_329), .val (.int lz), .unset] [(.int (1 : Int32)), (.int (1 : Int32))]))
        refine Go.st (fun _ => XS.goto X330.here C.hx rfl (pc0 := 147) (pc' := 151) rfl (hb C.hby at_147) (by decide) (by decide)) ?_
        show Go p e below s n0 _ _ _ (T330.setTop (mkF m 151 #[.val (.int xc), .val (.int xg), .val (.int xl), .val (.int ca), .val (.int cp.toInt32), .val (.int cu.toInt32), .val (.int lz), .val (.ref b323), .val (.ref a4_325), .val (.ref a4_329), .val (.int lz), .unset] [(.int (1 : Int32)), (.int (1 : Int32))]))
        refine Go.icmp_ne C X330 (pc' := 158) at_151 (by decide) (by decide) (fun hc => absurd hc (by decide)) (fun _ => ?_)
        show Go p e below s n0 _ _ _ (T330.setTop (mkF m 154 #[.val (.int xc), .val (.int xg), .val (.int xl), .val (.int ca), .val (.int cp.toInt32), .val (.int cu.toInt32), .val (.int lz), .val (.ref b323), .val (.ref a4_325), .val (.ref a4_329), .val (.int lz), .unset] []))
        refine Go.st (fun _ => XS.iconst X330.here C.hx rfl (hb C.hby at_154)) ?_
        show Go p e below s n0 _ _ _ (T330.setTop (mkF m 155 #[.val (.int xc), .val (.int xg), .val (.int xl), .val (.int ca), .val (.int cp.toInt32), .val (.int cu.toInt32), .val (.int lz), .val (.ref b323), .val (.ref a4_325), .val (.ref a4_329), .val (.int lz), .unset] [(.int (1 : Int32))]))
        refine Go.st (fun _ => XS.goto X330.here C.hx rfl (pc0 := 155) (pc' := 159) rfl (hb C.hby at_155) (by decide) (by decide)) ?_
        show Go p e below s n0 _ _ _ (T330.setTop (mkF m 159 #[.val (.int xc), .val (.int xg), .val (.int xl), .val (.int ca), .val (.int cp.toInt32), .val (.int cu.toInt32), .val (.int lz), .val (.ref b323), .val (.ref a4_325), .val (.ref a4_329), .val (.int lz), .unset] [(.int (1 : Int32))]))
        refine Go.st (fun _ => XS.istore X330.here C.hx rfl (hb C.hby at_159) rfl (l' := #[.val (.int xc), .val (.int xg), .val (.int xl), .val (.int ca), .val (.int cp.toInt32), .val (.int cu.toInt32), .val (.int lz), .val (.ref b323), .val (.ref a4_325), .val (.ref a4_329), .val (.int lz), .val (.int (1 : Int32))]) rfl) ?_
        show Go p e below s n0 _ _ _ (T330.setTop (mkF m 161 #[.val (.int xc), .val (.int xg), .val (.int xl), .val (.int ca), .val (.int cp.toInt32), .val (.int cu.toInt32), .val (.int lz), .val (.ref b323), .val (.ref a4_325), .val (.ref a4_329), .val (.int lz), .val (.int (1 : Int32))] []))
        refine Go.st (fun _ => XS.iload X330.here C.hx rfl (hb C.hby at_161) rfl) ?_
        show Go p e below s n0 _ _ _ (T330.setTop (mkF m 163 #[.val (.int xc), .val (.int xg), .val (.int xl), .val (.int ca), .val (.int cp.toInt32), .val (.int cu.toInt32), .val (.int lz), .val (.ref b323), .val (.ref a4_325), .val (.ref a4_329), .val (.int lz), .val (.int (1 : Int32))] [(.int (1 : Int32))]))
        refine Go.if_eq C X330 (pc' := 178) at_163 (by decide) (by decide) (fun hc => absurd hc (by decide)) (fun _ => ?_)
        show Go p e below s n0 _ _ _ (T330.setTop (mkF m 166 #[.val (.int xc), .val (.int xg), .val (.int xl), .val (.int ca), .val (.int cp.toInt32), .val (.int cu.toInt32), .val (.int lz), .val (.ref b323), .val (.ref a4_325), .val (.ref a4_329), .val (.int lz), .val (.int (1 : Int32))] []))
        refine Go.st (fun _ => XS.aload X330.here C.hx rfl (hb C.hby at_166) rfl rfl) ?_
        show Go p e below s n0 _ _ _ (T330.setTop (mkF m 168 #[.val (.int xc), .val (.int xg), .val (.int xl), .val (.int ca), .val (.int cp.toInt32), .val (.int cu.toInt32), .val (.int lz), .val (.ref b323), .val (.ref a4_325), .val (.ref a4_329), .val (.int lz), .val (.int (1 : Int32))] [(.ref b323)]))
        refine Go.callV C X330 (W := 0) (argsL := []) (rest := []) (a := b323) (BB329).1 (wd 67 rfl) (wd 68 rfl) (wd 70 rfl) (wd 69 rfl) (wd 6 rfl) (wd 71 rfl) (by decide) rfl (con_records l Z a0 hw n0 h329 X330.size b323 a1_324 a2_324 a4_329 cp n_329 0 0 B326 F327 BB329) (by decide) (by decide) rfl (lenOf pd_11 rfl) (Nat.le_of_ble_eq_true rfl) rfl at_168 (by decide) (by decide) (fun T397 h397 v397 X397 hQ397 => ?_)
        obtain ⟨rfl, hh397⟩ := hQ397
        rw [hh397] at X397
        show Go p e below s n0 _ _ _ (T397.setTop (mkF m 171 #[.val (.int xc), .val (.int xg), .val (.int xl), .val (.int ca), .val (.int cp.toInt32), .val (.int cu.toInt32), .val (.int lz), .val (.ref b323), .val (.ref a4_325), .val (.ref a4_329), .val (.int lz), .val (.int (1 : Int32))] [(.int (0 : Int32))]))
        refine Go.if_ne C X397 (pc' := 178) at_171 (by decide) (by decide) (fun hc => absurd hc (by decide)) (fun _ => ?_)
        show Go p e below s n0 _ _ _ (T397.setTop (mkF m 174 #[.val (.int xc), .val (.int xg), .val (.int xl), .val (.int ca), .val (.int cp.toInt32), .val (.int cu.toInt32), .val (.int lz), .val (.ref b323), .val (.ref a4_325), .val (.ref a4_329), .val (.int lz), .val (.int (1 : Int32))] []))
        refine Go.st (fun _ => XS.iconst X397.here C.hx rfl (hb C.hby at_174)) ?_
        show Go p e below s n0 _ _ _ (T397.setTop (mkF m 175 #[.val (.int xc), .val (.int xg), .val (.int xl), .val (.int ca), .val (.int cp.toInt32), .val (.int cu.toInt32), .val (.int lz), .val (.ref b323), .val (.ref a4_325), .val (.ref a4_329), .val (.int lz), .val (.int (1 : Int32))] [(.int (1 : Int32))]))
        refine Go.st (fun _ => XS.goto X397.here C.hx rfl (pc0 := 175) (pc' := 179) rfl (hb C.hby at_175) (by decide) (by decide)) ?_
        show Go p e below s n0 _ _ _ (T397.setTop (mkF m 179 #[.val (.int xc), .val (.int xg), .val (.int xl), .val (.int ca), .val (.int cp.toInt32), .val (.int cu.toInt32), .val (.int lz), .val (.ref b323), .val (.ref a4_325), .val (.ref a4_329), .val (.int lz), .val (.int (1 : Int32))] [(.int (1 : Int32))]))
        refine Go.st (fun _ => XS.istore X397.here C.hx rfl (hb C.hby at_179) rfl (l' := #[.val (.int xc), .val (.int xg), .val (.int xl), .val (.int ca), .val (.int cp.toInt32), .val (.int cu.toInt32), .val (.int lz), .val (.ref b323), .val (.ref a4_325), .val (.ref a4_329), .val (.int lz), .val (.int (1 : Int32))]) rfl) ?_
        show Go p e below s n0 _ _ _ (T397.setTop (mkF m 181 #[.val (.int xc), .val (.int xg), .val (.int xl), .val (.int ca), .val (.int cp.toInt32), .val (.int cu.toInt32), .val (.int lz), .val (.ref b323), .val (.ref a4_325), .val (.ref a4_329), .val (.int lz), .val (.int (1 : Int32))] []))
        refine Go.st (fun _ => XS.aload X397.here C.hx rfl (hb C.hby at_181) rfl rfl) ?_
        show Go p e below s n0 _ _ _ (T397.setTop (mkF m 183 #[.val (.int xc), .val (.int xg), .val (.int xl), .val (.int ca), .val (.int cp.toInt32), .val (.int cu.toInt32), .val (.int lz), .val (.ref b323), .val (.ref a4_325), .val (.ref a4_329), .val (.int lz), .val (.int (1 : Int32))] [(.ref b323)]))
        refine Go.st (fun _ => XS.iconst X397.here C.hx rfl (hb C.hby at_183)) ?_
        show Go p e below s n0 _ _ _ (T397.setTop (mkF m 184 #[.val (.int xc), .val (.int xg), .val (.int xl), .val (.int ca), .val (.int cp.toInt32), .val (.int cu.toInt32), .val (.int lz), .val (.ref b323), .val (.ref a4_325), .val (.ref a4_329), .val (.int lz), .val (.int (1 : Int32))] [(.int (3 : Int32)), (.ref b323)]))
        refine Go.st (fun _ => XS.iconst X397.here C.hx rfl (hb C.hby at_184)) ?_
        show Go p e below s n0 _ _ _ (T397.setTop (mkF m 185 #[.val (.int xc), .val (.int xg), .val (.int xl), .val (.int ca), .val (.int cp.toInt32), .val (.int cu.toInt32), .val (.int lz), .val (.ref b323), .val (.ref a4_325), .val (.ref a4_329), .val (.int lz), .val (.int (1 : Int32))] [(.int (5 : Int32)), (.int (3 : Int32)), (.ref b323)]))
        refine Go.callV C X397 (W := 0) (argsL := [(.int (3 : Int32)), (.int (5 : Int32))]) (rest := []) (a := b323) (BB329).1 (wd 43 rfl) (wd 44 rfl) (wd 46 rfl) (wd 45 rfl) (wd 6 rfl) (wd 47 rfl) (by decide) rfl (con_add l Z a0 hw n0 h329 X397.size b323 a1_324 a2_324 a4_329 cp n_329 (3 : Int32) (5 : Int32) 0 B326 F327 DD329 BB329) (by decide) (by decide) rfl (lenOf pd_7 rfl) (Nat.le_of_ble_eq_true rfl) rfl at_185 (by decide) (by decide) (fun T399 h399 v399 X399 hQ399 => ?_)
        obtain ⟨rfl, B399, BB399⟩ := hQ399
        show Go p e below s n0 _ _ _ (T399.setTop (mkF m 188 #[.val (.int xc), .val (.int xg), .val (.int xl), .val (.int ca), .val (.int cp.toInt32), .val (.int cu.toInt32), .val (.int lz), .val (.ref b323), .val (.ref a4_325), .val (.ref a4_329), .val (.int lz), .val (.int (1 : Int32))] []))
        refine Go.st (fun _ => XS.aload X399.here C.hx rfl (hb C.hby at_188) rfl rfl) ?_
        show Go p e below s n0 _ _ _ (T399.setTop (mkF m 190 #[.val (.int xc), .val (.int xg), .val (.int xl), .val (.int ca), .val (.int cp.toInt32), .val (.int cu.toInt32), .val (.int lz), .val (.ref b323), .val (.ref a4_325), .val (.ref a4_329), .val (.int lz), .val (.int (1 : Int32))] [(.ref b323)]))
        refine Go.callV C X399 (W := 0) (argsL := []) (rest := []) (a := b323) (BB399).1 (wd 50 rfl) (wd 51 rfl) (wd 53 rfl) (wd 52 rfl) (wd 6 rfl) (wd 54 rfl) (by decide) rfl (con_end l Z a0 hw n0 h399 X399.size b323 a1_324 a2_324 a4_329 cp n_329 B399 F327 DD329 BB399) (by decide) (by decide) rfl (lenOf pd_8 rfl) (Nat.le_of_ble_eq_true rfl) rfl at_190 (by decide) (by decide) (fun T400 h400 v400 X400 hQ400 => ?_)
        obtain ⟨rfl, F400, BB400⟩ := hQ400
        show Go p e below s n0 _ _ _ (T400.setTop (mkF m 193 #[.val (.int xc), .val (.int xg), .val (.int xl), .val (.int ca), .val (.int cp.toInt32), .val (.int cu.toInt32), .val (.int lz), .val (.ref b323), .val (.ref a4_325), .val (.ref a4_329), .val (.int lz), .val (.int (1 : Int32))] []))
        refine Go.st (fun _ => XS.iload X400.here C.hx rfl (hb C.hby at_193) rfl) ?_
        show Go p e below s n0 _ _ _ (T400.setTop (mkF m 195 #[.val (.int xc), .val (.int xg), .val (.int xl), .val (.int ca), .val (.int cp.toInt32), .val (.int cu.toInt32), .val (.int lz), .val (.ref b323), .val (.ref a4_325), .val (.ref a4_329), .val (.int lz), .val (.int (1 : Int32))] [(.int (1 : Int32))]))
        refine Go.if_eq C X400 (pc' := 212) at_195 (by decide) (by decide) (fun hc => absurd hc (by decide)) (fun _ => ?_)
        show Go p e below s n0 _ _ _ (T400.setTop (mkF m 198 #[.val (.int xc), .val (.int xg), .val (.int xl), .val (.int ca), .val (.int cp.toInt32), .val (.int cu.toInt32), .val (.int lz), .val (.ref b323), .val (.ref a4_325), .val (.ref a4_329), .val (.int lz), .val (.int (1 : Int32))] []))
        refine Go.st (fun _ => XS.aload X400.here C.hx rfl (hb C.hby at_198) rfl rfl) ?_
        show Go p e below s n0 _ _ _ (T400.setTop (mkF m 200 #[.val (.int xc), .val (.int xg), .val (.int xl), .val (.int ca), .val (.int cp.toInt32), .val (.int cu.toInt32), .val (.int lz), .val (.ref b323), .val (.ref a4_325), .val (.ref a4_329), .val (.int lz), .val (.int (1 : Int32))] [(.ref b323)]))
        refine Go.st (fun _ => XS.iconst X400.here C.hx rfl (hb C.hby at_200)) ?_
        show Go p e below s n0 _ _ _ (T400.setTop (mkF m 201 #[.val (.int xc), .val (.int xg), .val (.int xl), .val (.int ca), .val (.int cp.toInt32), .val (.int cu.toInt32), .val (.int lz), .val (.ref b323), .val (.ref a4_325), .val (.ref a4_329), .val (.int lz), .val (.int (1 : Int32))] [(.int (0 : Int32)), (.ref b323)]))
        refine Go.callV C X400 (W := 0) (argsL := [(.int (0 : Int32))]) (rest := []) (a := b323) (BB400).1 (wd 72 rfl) (wd 73 rfl) (wd 75 rfl) (wd 74 rfl) (wd 6 rfl) (wd 76 rfl) (by decide) rfl (con_fields l Z a0 hw n0 h400 X400.size b323 a1_324 a2_324 a4_329 cp n_329 1 B399 F400 BB400) (by decide) (by decide) rfl (lenOf pd_12 rfl) (Nat.le_of_ble_eq_true rfl) rfl at_201 (by decide) (by decide) (fun T402 h402 v402 X402 hQ402 => ?_)
        obtain ⟨rfl, hh402⟩ := hQ402
        rw [hh402] at X402
        show Go p e below s n0 _ _ _ (T402.setTop (mkF m 204 #[.val (.int xc), .val (.int xg), .val (.int xl), .val (.int ca), .val (.int cp.toInt32), .val (.int cu.toInt32), .val (.int lz), .val (.ref b323), .val (.ref a4_325), .val (.ref a4_329), .val (.int lz), .val (.int (1 : Int32))] [(.int (1 : Int32))]))
        refine Go.st (fun _ => XS.iconst X402.here C.hx rfl (hb C.hby at_204)) ?_
        show Go p e below s n0 _ _ _ (T402.setTop (mkF m 205 #[.val (.int xc), .val (.int xg), .val (.int xl), .val (.int ca), .val (.int cp.toInt32), .val (.int cu.toInt32), .val (.int lz), .val (.ref b323), .val (.ref a4_325), .val (.ref a4_329), .val (.int lz), .val (.int (1 : Int32))] [(.int (1 : Int32)), (.int (1 : Int32))]))
        refine Go.icmp_ne C X402 (pc' := 212) at_205 (by decide) (by decide) (fun hc => absurd hc (by decide)) (fun _ => ?_)
        show Go p e below s n0 _ _ _ (T402.setTop (mkF m 208 #[.val (.int xc), .val (.int xg), .val (.int xl), .val (.int ca), .val (.int cp.toInt32), .val (.int cu.toInt32), .val (.int lz), .val (.ref b323), .val (.ref a4_325), .val (.ref a4_329), .val (.int lz), .val (.int (1 : Int32))] []))
        refine Go.st (fun _ => XS.iconst X402.here C.hx rfl (hb C.hby at_208)) ?_
        show Go p e below s n0 _ _ _ (T402.setTop (mkF m 209 #[.val (.int xc), .val (.int xg), .val (.int xl), .val (.int ca), .val (.int cp.toInt32), .val (.int cu.toInt32), .val (.int lz), .val (.ref b323), .val (.ref a4_325), .val (.ref a4_329), .val (.int lz), .val (.int (1 : Int32))] [(.int (1 : Int32))]))
        refine Go.st (fun _ => XS.goto X402.here C.hx rfl (pc0 := 209) (pc' := 213) rfl (hb C.hby at_209) (by decide) (by decide)) ?_
        show Go p e below s n0 _ _ _ (T402.setTop (mkF m 213 #[.val (.int xc), .val (.int xg), .val (.int xl), .val (.int ca), .val (.int cp.toInt32), .val (.int cu.toInt32), .val (.int lz), .val (.ref b323), .val (.ref a4_325), .val (.ref a4_329), .val (.int lz), .val (.int (1 : Int32))] [(.int (1 : Int32))]))
        exact Go.retZ C X402 (by decide) at_213 rfl (by decide) (by decide)
set_option maxRecDepth 65536 in
set_option maxHeartbeats 40000000 in
theorem comes_1 {Post : Tables → Env → Array Value → State → Outcome → State → Prop} (hpost : ∀ tb e args s v u, (limb_1_1.after args s (.returned v) u = true ∧ limb_1_2.after args s (.returned v) u = true ∧ True) → FrameEnd s (.returned v) u (Jvm.fieldLocs frame_1_writes args s ++ Jvm.arrayLocs frame_1_arrays args s ++ Jvm.staticLocs frame_1_statics s) 24 704 → Post tb e args s (.returned v) u) :
    ArmFor flags0 classFile x code maxLocals ret World_1 tables_1 room_1 Calls_1 rest_1 Pre_1 Post := by
  intro l hfl _ _ p e ha hc hk s m args below hf hA hF happ hP
  obtain ⟨hcalls, hrest, hpre⟩ := hP
  obtain ⟨-, -, -, hnamed, -, -, -, hat⟩ := (Spec.applies_iff hf).mp happ
  obtain ⟨hg, hn⟩ := and_e (Cond.before_iff.mp (show (Jvm.Cond.and given_1 narrow_1).before args s = true from hpre))
  obtain ⟨h1, hr0⟩ := and_e hg
  obtain ⟨ha0, hr1⟩ := and_e hr0
  obtain ⟨ha1, hr2⟩ := and_e hr1
  have ha2 := hr2
  obtain ⟨w0, w1, w2, rfl⟩ : ∃ w0 w1 w2 : Value, args = #[w0, w1, w2] := by
    have hs : args.size = 3 := by simpa [Cond.value, given_1] using h1
    obtain ⟨L⟩ := args
    match L, hs with
    | [w0, w1, w2], _ => exact ⟨w0, w1, w2, rfl⟩
  have hw := fun d (hd : d ∈ tables_1) => atoms_spec (ws := Jvm.Cond.code x code maxLocals ret :: tables_1) hat d (List.mem_cons_of_mem _ hd)
  obtain ⟨i0, e0⟩ := is_v ha0
  obtain rfl : w0 = (.int i0) := Option.some.inj e0
  obtain ⟨i1, e1⟩ := is_v ha1
  obtain rfl : w1 = (.int i1) := Option.some.inj e1
  obtain ⟨i2, e2⟩ := is_v ha2
  obtain rfl : w2 = (.int i2) := Option.some.inj e2
  obtain ⟨n, o, h1, h2, h3, _, L, rfl, ⟨rfl, N⟩, hq⟩ := con_law l s _ hw s.heap.size s.heap (Nat.le_refl _) i0 i1 i2  p e ha hc hk s m _ below hf ((Spec.applies_iff_loose hf).mp happ).1 ⟨rfl, State.Warmed39.refl s, rfl⟩ trivial
  refine ⟨n, _, h1, h2, h3, hpost _ _ _ _ _ _ ⟨Cond.after_iff.mpr rfl, Cond.after_iff.mpr (eq_i res_at (Term.int_eval (1)) rfl), trivial⟩ ⟨hq.1, hq.2.1, (hq.2.2.sift fun y hy => Or.inr (N y hy)).mono (by decide) (by decide)⟩⟩
theorem main_1_1 : Claimed_1_1 := comes_1 fun _ _ _ _ _ _ h hF => ⟨h.1, hF⟩
theorem main_1_2 : Claimed_1_2 := comes_1 fun _ _ _ _ _ _ h hF => ⟨h.2.1, hF⟩
end Jvm.Pilot.@@N@@
namespace Jvm.Pilot.@@N@@
open Jvm Jvm.ClassFile Sem Op Lib Jvm.Free Jvm.Stand Jvm.Pilot.@@N@@.Jvm.D
/-! MADE BY PROGRAM (witnessworld.py) out of the Statement's table words and the real class files: 14 classes; the members and pool entries that the words name. The judged class is class 1, her method 1. -/
namespace start1
open Jvm.ClassFile
def u (s : String) : CpInfo := .utf8 (stringToUtf16 s)
/-- a pool by its gaps: so many unusable entries, then the entry; so many at the end -/
def gap : Nat → List CpInfo → List CpInfo
  | 0, r => r
  | n + 1, r => .unusable :: gap n r
def poolList (es : List (Nat × CpInfo)) (last : Nat) : List CpInfo := es.foldr (fun e r => gap e.1 (e.2 :: r)) (gap last [])
def pool (es : List (Nat × CpInfo)) (last : Nat) : Array CpInfo := ⟨poolList es last⟩
def fileOf (pool : Array CpInfo) (this : Nat) (attrs : Array Attribute := #[]) (ms : Array MethodInfo := #[]) (fl : Nat := 33) (sup : Nat := 0) (ifs : Array Nat := #[]) (fds : Array FieldInfo := #[]) : ClassFile where
  minorVersion := 0
  majorVersion := 65
  constantPool := pool
  accessFlags := fl
  thisClass := this
  superClass := sup
  interfaces := ifs
  fields := fds
  methods := ms
  attributes := attrs
def plain (name : String) (sup : Option ClassId) : Class where
  name := name
  kind := .ordinary
  loader := none
  accessFlags := 33
  super := sup
  interfaces := #[]
  cf := none
  fields := #[]
  methods := #[]
  instanceTypes := #[]
  staticTypes := #[]
  resolved := #[]
  callSites := []
  init := .initialized
  statics := none
  mirror := none

def pool0 : Array CpInfo := pool [(5, u "<init>"), (0, u "()V"), (1, .class_ 10), (1, u "java/lang/Object"), (85, u "clone"), (0, u "()Ljava/lang/Object;")] 26

def k0c0 : Code := { maxStack := 0, maxLocals := 1, code := object_method_1_code, exceptionTable := #[], attributes := #[] }
def k0m0 : Method := { name := "<init>", desc := "()V", sig := { parameters := [], returnType := none }, accessFlags := 1, code := some k0c0 }
def k0m1 : Method := { name := "clone", desc := "()Ljava/lang/Object;", sig := { parameters := [], returnType := some (.object "java/lang/Object") }, accessFlags := 260, code := none }
/-- java/lang/Object -/
def k0 : Class := { plain "java/lang/Object" none with
  accessFlags := 33
  interfaces := #[]
  cf := some (fileOf pool0 8 #[] #[{ accessFlags := 1, nameIndex := 5, descriptorIndex := 6, attributes := #[] }, { accessFlags := 260, nameIndex := 96, descriptorIndex := 97, attributes := #[] }] 33 0 #[] #[])
  fields := #[]
  methods := #[k0m0, k0m1]
  instanceTypes := #[]
  staticTypes := #[]
  resolved := Array.replicate 124 none
  statics := none }

def pool1 : Array CpInfo := pool [(2, .class_ 4), (1, u "java/lang/Object"), (0, u "<init>"), (0, u "()V"), (0, .methodref 8 9), (0, .class_ 10), (0, .nameAndType 11 12), (0, u "java/lang/Math"), (0, u "max"), (0, u "(II)I"), (0, .class_ 14), (0, u "com/example/vitruvius/vitruvius/csv/CsvBatch"), (0, .methodref 13 16), (0, .nameAndType 5 17), (0, u "(I)V"), (0, .methodref 13 19), (0, .nameAndType 20 17), (0, u "grow"), (0, .methodref 13 22), (0, .nameAndType 23 24), (0, u "addField"), (0, u "(II)V"), (0, .methodref 13 26), (0, .nameAndType 27 6), (0, u "endRecord"), (0, .methodref 13 29), (0, .nameAndType 30 31), (0, u "bytes"), (0, u "()[B"), (0, .methodref 13 33), (0, .nameAndType 34 17), (0, u "clear"), (0, .methodref 13 36), (0, .nameAndType 37 38), (0, u "records"), (0, u "()I"), (0, .methodref 13 40), (0, .nameAndType 41 42), (0, u "fields"), (0, u "(I)I"), (0, .class_ 44), (0, u "com/example/vitruvius/vitruvius/csv/CsvBatchClearPinLaw"), (2, u "law"), (0, u "(III)Z")] 5

def k1m0 : Method := { name := "<init>", desc := "()V", sig := { parameters := [], returnType := none }, accessFlags := 1, code := none }
def k1c1 : Code := { maxStack := 3, maxLocals := 12, code := code, exceptionTable := #[], attributes := #[] }
def k1m1 : Method := { name := "law", desc := "(III)Z", sig := { parameters := [.int, .int, .int], returnType := some .boolean }, accessFlags := 9, code := some k1c1 }
/-- com/example/vitruvius/vitruvius/csv/CsvBatchClearPinLaw -/
def k1 : Class := { plain "com/example/vitruvius/vitruvius/csv/CsvBatchClearPinLaw" (some 0) with
  accessFlags := 49
  interfaces := #[]
  cf := some (fileOf pool1 43 #[] #[{ accessFlags := 1, nameIndex := 5, descriptorIndex := 6, attributes := #[] }, { accessFlags := 9, nameIndex := 47, descriptorIndex := 48, attributes := #[] }] 49 2 #[] #[])
  fields := #[]
  methods := #[k1m0, k1m1]
  instanceTypes := #[]
  staticTypes := #[]
  resolved := Array.replicate 54 none
  statics := none }

def pool2 : Array CpInfo := pool [(1, .class_ 2), (0, u "java/lang/Math"), (1, .class_ 6), (1, u "java/lang/Object"), (0, u "<init>"), (0, u "()V"), (89, .class_ 100), (1, u "java/lang/Math$RandomNumberGeneratorHolder"), (71, u "negativeZeroFloatBits"), (0, u "J"), (2, u "negativeZeroDoubleBits"), (21, u "max"), (2, u "min"), (43, u "$assertionsDisabled"), (0, u "Z"), (88, u "(II)I"), (2, u "twoToTheDoubleScaleDown"), (0, u "D"), (4, u "twoToTheDoubleScaleUp"), (9, u "E"), (3, u "PI"), (2, u "TAU"), (2, u "DEGREES_TO_RADIANS"), (0, u "RADIANS_TO_DEGREES")] 94

def k2m0 : Method := { name := "<init>", desc := "()V", sig := { parameters := [], returnType := none }, accessFlags := 2, code := none }
def k2c1 : Code := { maxStack := 2, maxLocals := 2, code := jdk_29_method_65_code, exceptionTable := #[], attributes := #[] }
def k2m1 : Method := { name := "max", desc := "(II)I", sig := { parameters := [.int, .int], returnType := some .int }, accessFlags := 9, code := some k2c1 }
def k2c2 : Code := { maxStack := 2, maxLocals := 2, code := jdk_29_method_69_code, exceptionTable := #[], attributes := #[] }
def k2m2 : Method := { name := "min", desc := "(II)I", sig := { parameters := [.int, .int], returnType := some .int }, accessFlags := 9, code := some k2c2 }
/-- java/lang/Math -/
def k2 : Class := { plain "java/lang/Math" (some 0) with
  accessFlags := 49
  interfaces := #[]
  cf := some (fileOf pool2 1 #[.nestMembers #[98]] #[{ accessFlags := 2, nameIndex := 7, descriptorIndex := 8, attributes := #[] }, { accessFlags := 9, nameIndex := 198, descriptorIndex := 335, attributes := #[] }, { accessFlags := 9, nameIndex := 201, descriptorIndex := 335, attributes := #[] }] 49 4 #[] #[{ accessFlags := 25, nameIndex := 354, descriptorIndex := 339, attributes := #[] }, { accessFlags := 25, nameIndex := 358, descriptorIndex := 339, attributes := #[] }, { accessFlags := 25, nameIndex := 361, descriptorIndex := 339, attributes := #[] }, { accessFlags := 26, nameIndex := 364, descriptorIndex := 339, attributes := #[] }, { accessFlags := 26, nameIndex := 365, descriptorIndex := 339, attributes := #[] }, { accessFlags := 26, nameIndex := 172, descriptorIndex := 173, attributes := #[] }, { accessFlags := 26, nameIndex := 176, descriptorIndex := 173, attributes := #[] }, { accessFlags := 8, nameIndex := 344, descriptorIndex := 339, attributes := #[] }, { accessFlags := 8, nameIndex := 338, descriptorIndex := 339, attributes := #[] }, { accessFlags := 4120, nameIndex := 245, descriptorIndex := 246, attributes := #[] }])
  fields := #[{ name := "E", type := .double, accessFlags := 25, slot := 0, constantValue := 0 }, { name := "PI", type := .double, accessFlags := 25, slot := 1, constantValue := 0 }, { name := "TAU", type := .double, accessFlags := 25, slot := 2, constantValue := 0 }, { name := "DEGREES_TO_RADIANS", type := .double, accessFlags := 26, slot := 3, constantValue := 0 }, { name := "RADIANS_TO_DEGREES", type := .double, accessFlags := 26, slot := 4, constantValue := 0 }, { name := "negativeZeroFloatBits", type := .long, accessFlags := 26, slot := 5, constantValue := 0 }, { name := "negativeZeroDoubleBits", type := .long, accessFlags := 26, slot := 6, constantValue := 0 }, { name := "twoToTheDoubleScaleUp", type := .double, accessFlags := 8, slot := 7, constantValue := 0 }, { name := "twoToTheDoubleScaleDown", type := .double, accessFlags := 8, slot := 8, constantValue := 0 }, { name := "$assertionsDisabled", type := .boolean, accessFlags := 4120, slot := 9, constantValue := 0 }]
  methods := #[k2m0, k2m1, k2m2]
  instanceTypes := #[]
  staticTypes := #[.double, .double, .double, .double, .double, .long, .long, .double, .double, .boolean]
  resolved := Array.replicate 460 none
  statics := none }

def pool3 : Array CpInfo := pool [(1, .class_ 2), (0, u "com/example/vitruvius/vitruvius/csv/CsvBatch"), (3, u "<init>"), (0, u "(I)V"), (0, .methodref 9 10), (0, .class_ 11), (0, .nameAndType 6 12), (0, u "java/lang/Object"), (0, u "()V"), (0, .fieldref 1 14), (0, .nameAndType 15 16), (0, u "bounds"), (0, u "[I"), (0, .fieldref 1 18), (0, .nameAndType 19 16), (0, u "firstFields"), (0, .fieldref 1 21), (0, .nameAndType 22 23), (0, u "lines"), (0, u "[J"), (0, .methodref 25 26), (0, .class_ 27), (0, .nameAndType 28 29), (0, u "java/lang/Math"), (0, u "max"), (0, u "(II)I"), (0, .fieldref 1 31), (0, .nameAndType 32 33), (0, u "capacity"), (0, u "I"), (0, .fieldref 1 35), (0, .nameAndType 36 37), (0, u "bytes"), (0, u "[B"), (0, .fieldref 1 39), (0, .nameAndType 40 33), (0, u "records"), (2, u "fields"), (0, u "(I)I"), (25, u "copyOf"), (1, .methodref 73 74), (0, .class_ 75), (0, .nameAndType 70 76), (0, u "java/util/Arrays"), (0, u "([BI)[B"), (0, .fieldref 1 78), (0, .nameAndType 43 33), (6, u "DEFAULT_CAPACITY"), (3, u "()I"), (4, u "()[B"), (5, u "grow"), (0, u "clear"), (2, u "addField"), (0, u "(II)V"), (1, u "endRecord")] 3

def k3m0 : Method := { name := "<init>", desc := "()V", sig := { parameters := [], returnType := none }, accessFlags := 1, code := none }
def k3c1 : Code := { maxStack := 3, maxLocals := 2, code := prog_1_method_2_code, exceptionTable := #[], attributes := #[] }
def k3m1 : Method := { name := "<init>", desc := "(I)V", sig := { parameters := [.int], returnType := none }, accessFlags := 1, code := some k3c1 }
def k3c2 : Code := { maxStack := 1, maxLocals := 1, code := prog_1_method_3_code, exceptionTable := #[], attributes := #[] }
def k3m2 : Method := { name := "records", desc := "()I", sig := { parameters := [], returnType := some .int }, accessFlags := 1, code := some k3c2 }
def k3c3 : Code := { maxStack := 3, maxLocals := 2, code := prog_1_method_4_code, exceptionTable := #[], attributes := #[] }
def k3m3 : Method := { name := "fields", desc := "(I)I", sig := { parameters := [.int], returnType := some .int }, accessFlags := 1, code := some k3c3 }
def k3c4 : Code := { maxStack := 1, maxLocals := 1, code := prog_1_method_7_code, exceptionTable := #[], attributes := #[] }
def k3m4 : Method := { name := "bytes", desc := "()[B", sig := { parameters := [], returnType := some (.array .byte) }, accessFlags := 1, code := some k3c4 }
def k3c5 : Code := { maxStack := 3, maxLocals := 2, code := prog_1_method_11_code, exceptionTable := #[], attributes := #[] }
def k3m5 : Method := { name := "grow", desc := "(I)V", sig := { parameters := [.int], returnType := none }, accessFlags := 0, code := some k3c5 }
def k3c6 : Code := { maxStack := 2, maxLocals := 2, code := prog_1_method_12_code, exceptionTable := #[], attributes := #[] }
def k3m6 : Method := { name := "clear", desc := "(I)V", sig := { parameters := [.int], returnType := none }, accessFlags := 0, code := some k3c6 }
def k3c7 : Code := { maxStack := 4, maxLocals := 3, code := prog_1_method_14_code, exceptionTable := #[], attributes := #[] }
def k3m7 : Method := { name := "addField", desc := "(II)V", sig := { parameters := [.int, .int], returnType := none }, accessFlags := 0, code := some k3c7 }
def k3c8 : Code := { maxStack := 3, maxLocals := 1, code := prog_1_method_16_code, exceptionTable := #[], attributes := #[] }
def k3m8 : Method := { name := "endRecord", desc := "()V", sig := { parameters := [], returnType := none }, accessFlags := 0, code := some k3c8 }
/-- com/example/vitruvius/vitruvius/csv/CsvBatch -/
def k3 : Class := { plain "com/example/vitruvius/vitruvius/csv/CsvBatch" (some 0) with
  accessFlags := 49
  interfaces := #[]
  cf := some (fileOf pool3 1 #[] #[{ accessFlags := 1, nameIndex := 6, descriptorIndex := 12, attributes := #[] }, { accessFlags := 1, nameIndex := 6, descriptorIndex := 7, attributes := #[] }, { accessFlags := 1, nameIndex := 40, descriptorIndex := 89, attributes := #[] }, { accessFlags := 1, nameIndex := 43, descriptorIndex := 44, attributes := #[] }, { accessFlags := 1, nameIndex := 36, descriptorIndex := 94, attributes := #[] }, { accessFlags := 0, nameIndex := 100, descriptorIndex := 7, attributes := #[] }, { accessFlags := 0, nameIndex := 101, descriptorIndex := 7, attributes := #[] }, { accessFlags := 0, nameIndex := 104, descriptorIndex := 105, attributes := #[] }, { accessFlags := 0, nameIndex := 107, descriptorIndex := 12, attributes := #[] }] 49 9 #[] #[{ accessFlags := 25, nameIndex := 85, descriptorIndex := 33, attributes := #[] }, { accessFlags := 18, nameIndex := 32, descriptorIndex := 33, attributes := #[] }, { accessFlags := 2, nameIndex := 36, descriptorIndex := 37, attributes := #[] }, { accessFlags := 2, nameIndex := 15, descriptorIndex := 16, attributes := #[] }, { accessFlags := 2, nameIndex := 43, descriptorIndex := 33, attributes := #[] }, { accessFlags := 2, nameIndex := 19, descriptorIndex := 16, attributes := #[] }, { accessFlags := 2, nameIndex := 22, descriptorIndex := 23, attributes := #[] }, { accessFlags := 2, nameIndex := 40, descriptorIndex := 33, attributes := #[] }])
  fields := #[{ name := "DEFAULT_CAPACITY", type := .int, accessFlags := 25, slot := 0, constantValue := 0 }, { name := "capacity", type := .int, accessFlags := 18, slot := 0, constantValue := 0 }, { name := "bytes", type := (.array .byte), accessFlags := 2, slot := 1, constantValue := 0 }, { name := "bounds", type := (.array .int), accessFlags := 2, slot := 2, constantValue := 0 }, { name := "fields", type := .int, accessFlags := 2, slot := 3, constantValue := 0 }, { name := "firstFields", type := (.array .int), accessFlags := 2, slot := 4, constantValue := 0 }, { name := "lines", type := (.array .long), accessFlags := 2, slot := 5, constantValue := 0 }, { name := "records", type := .int, accessFlags := 2, slot := 6, constantValue := 0 }]
  methods := #[k3m0, k3m1, k3m2, k3m3, k3m4, k3m5, k3m6, k3m7, k3m8]
  instanceTypes := #[.int, (.array .byte), (.array .int), .int, (.array .int), (.array .long), .int]
  staticTypes := #[.int]
  resolved := Array.replicate 111 none
  statics := none }

def pool4 : Array CpInfo := pool [(2, .class_ 4), (1, u "java/lang/Object"), (0, u "<init>"), (0, u "()V"), (7, .class_ 16), (1, u "java/util/Arrays"), (57, .class_ 76), (1, u "java/util/Arrays$NaturalOrder"), (32, u "()Ljava/lang/Object;"), (3, .class_ 115), (1, u "java/util/Arrays$LegacyMergeSort"), (1, u "Z"), (10, .nameAndType 129 109), (0, u "clone"), (20, .methodref 151 152), (0, .class_ 153), (0, .nameAndType 154 155), (0, u "java/lang/System"), (0, u "arraycopy"), (0, u "(Ljava/lang/Object;ILjava/lang/Object;II)V"), (146, u "copyOf"), (1, .methodref 305 306), (0, .class_ 307), (0, .nameAndType 308 309), (0, u "java/lang/Math"), (0, u "min"), (0, u "(II)I"), (0, .methodref 311 128), (0, .class_ 312), (0, u "[B"), (62, .class_ 376), (0, u "java/util/Arrays$ArrayList"), (68, u "$assertionsDisabled"), (269, u "MIN_ARRAY_SORT_GRAN"), (0, u "I"), (2, u "INSERTIONSORT_THRESHOLD"), (149, u "([BI)[B"), (105, .class_ 976), (0, u "java/util/Arrays$ArrayItr")] 52

def k4m0 : Method := { name := "<init>", desc := "()V", sig := { parameters := [], returnType := none }, accessFlags := 2, code := none }
def k4c1 : Code := { maxStack := 6, maxLocals := 3, code := jdk_65_method_121_code, exceptionTable := #[], attributes := #[] }
def k4m1 : Method := { name := "copyOf", desc := "([BI)[B", sig := { parameters := [(.array .byte), .int], returnType := some (.array .byte) }, accessFlags := 9, code := some k4c1 }
/-- java/util/Arrays -/
def k4 : Class := { plain "java/util/Arrays" (some 0) with
  accessFlags := 49
  interfaces := #[]
  cf := some (fileOf pool4 14 #[.nestMembers #[975, 375, 113, 74]] #[{ accessFlags := 2, nameIndex := 5, descriptorIndex := 6, attributes := #[] }, { accessFlags := 9, nameIndex := 302, descriptorIndex := 869, attributes := #[] }] 49 2 #[] #[{ accessFlags := 26, nameIndex := 715, descriptorIndex := 716, attributes := #[] }, { accessFlags := 26, nameIndex := 719, descriptorIndex := 716, attributes := #[] }, { accessFlags := 4120, nameIndex := 445, descriptorIndex := 117, attributes := #[] }])
  fields := #[{ name := "MIN_ARRAY_SORT_GRAN", type := .int, accessFlags := 26, slot := 0, constantValue := 0 }, { name := "INSERTIONSORT_THRESHOLD", type := .int, accessFlags := 26, slot := 1, constantValue := 0 }, { name := "$assertionsDisabled", type := .boolean, accessFlags := 4120, slot := 2, constantValue := 0 }]
  methods := #[k4m0, k4m1]
  instanceTypes := #[]
  staticTypes := #[.int, .int, .boolean]
  resolved := Array.replicate 1029 none
  statics := none }

def pool5 : Array CpInfo := pool [(2, .class_ 4), (1, u "java/lang/Object"), (0, u "<init>"), (0, u "()V"), (1, .class_ 10), (1, u "java/lang/System"), (0, u "allowSecurityManager"), (0, u "I"), (16, u "cons"), (0, u "Ljava/io/Console;"), (77, .class_ 110), (1, u "java/lang/System$CallersHolder"), (43, u "initialErrStream"), (0, u "Ljava/io/PrintStream;"), (19, u "security"), (0, u "Ljava/lang/SecurityManager;"), (31, .class_ 209), (0, u "java/lang/System$1"), (7, u "props"), (0, u "Ljava/util/Properties;"), (2, u "lineSeparator"), (0, u "Ljava/lang/String;"), (96, .class_ 321), (1, u "java/lang/System$LoggerFinder"), (5, .class_ 328), (0, u "java/lang/System$Logger"), (67, u "err"), (2, u "out"), (91, u "notSupportedJnuEncoding"), (15, u "in"), (17, u "initialIn"), (0, u "Ljava/io/InputStream;"), (35, u "bootLayer"), (0, u "Ljava/lang/ModuleLayer;"), (99, .class_ 664), (0, u "java/lang/System$2"), (9, u "NEVER"), (2, u "MAYBE"), (49, u "arraycopy"), (0, u "(Ljava/lang/Object;ILjava/lang/Object;II)V"), (72, .class_ 802), (0, u "java/lang/System$Logger$Level")] 31

def k5m0 : Method := { name := "<init>", desc := "()V", sig := { parameters := [], returnType := none }, accessFlags := 2, code := none }
def k5m1 : Method := { name := "arraycopy", desc := "(Ljava/lang/Object;ILjava/lang/Object;II)V", sig := { parameters := [(.object "java/lang/Object"), .int, (.object "java/lang/Object"), .int, .int], returnType := none }, accessFlags := 265, code := none }
/-- java/lang/System -/
def k5 : Class := { plain "java/lang/System" (some 0) with
  accessFlags := 49
  interfaces := #[]
  cf := some (fileOf pool5 8 #[.nestMembers #[319, 327, 801, 108, 663, 208]] #[{ accessFlags := 2, nameIndex := 5, descriptorIndex := 6, attributes := #[] }, { accessFlags := 265, nameIndex := 727, descriptorIndex := 728, attributes := #[] }] 49 2 #[] #[{ accessFlags := 25, nameIndex := 507, descriptorIndex := 526, attributes := #[] }, { accessFlags := 25, nameIndex := 399, descriptorIndex := 155, attributes := #[] }, { accessFlags := 25, nameIndex := 396, descriptorIndex := 155, attributes := #[] }, { accessFlags := 10, nameIndex := 525, descriptorIndex := 526, attributes := #[] }, { accessFlags := 26, nameIndex := 674, descriptorIndex := 12, attributes := #[] }, { accessFlags := 26, nameIndex := 677, descriptorIndex := 12, attributes := #[] }, { accessFlags := 10, nameIndex := 11, descriptorIndex := 12, attributes := #[] }, { accessFlags := 74, nameIndex := 175, descriptorIndex := 176, attributes := #[] }, { accessFlags := 10, nameIndex := 491, descriptorIndex := 222, attributes := #[] }, { accessFlags := 74, nameIndex := 29, descriptorIndex := 30, attributes := #[] }, { accessFlags := 74, nameIndex := 154, descriptorIndex := 155, attributes := #[] }, { accessFlags := 10, nameIndex := 217, descriptorIndex := 218, attributes := #[] }, { accessFlags := 10, nameIndex := 221, descriptorIndex := 222, attributes := #[] }, { accessFlags := 8, nameIndex := 562, descriptorIndex := 563, attributes := #[] }])
  fields := #[{ name := "in", type := (.object "java/io/InputStream"), accessFlags := 25, slot := 0, constantValue := 0 }, { name := "out", type := (.object "java/io/PrintStream"), accessFlags := 25, slot := 1, constantValue := 0 }, { name := "err", type := (.object "java/io/PrintStream"), accessFlags := 25, slot := 2, constantValue := 0 }, { name := "initialIn", type := (.object "java/io/InputStream"), accessFlags := 10, slot := 3, constantValue := 0 }, { name := "NEVER", type := .int, accessFlags := 26, slot := 4, constantValue := 0 }, { name := "MAYBE", type := .int, accessFlags := 26, slot := 5, constantValue := 0 }, { name := "allowSecurityManager", type := .int, accessFlags := 10, slot := 6, constantValue := 0 }, { name := "security", type := (.object "java/lang/SecurityManager"), accessFlags := 74, slot := 7, constantValue := 0 }, { name := "notSupportedJnuEncoding", type := (.object "java/lang/String"), accessFlags := 10, slot := 8, constantValue := 0 }, { name := "cons", type := (.object "java/io/Console"), accessFlags := 74, slot := 9, constantValue := 0 }, { name := "initialErrStream", type := (.object "java/io/PrintStream"), accessFlags := 74, slot := 10, constantValue := 0 }, { name := "props", type := (.object "java/util/Properties"), accessFlags := 10, slot := 11, constantValue := 0 }, { name := "lineSeparator", type := (.object "java/lang/String"), accessFlags := 10, slot := 12, constantValue := 0 }, { name := "bootLayer", type := (.object "java/lang/ModuleLayer"), accessFlags := 8, slot := 13, constantValue := 0 }]
  methods := #[k5m0, k5m1]
  instanceTypes := #[]
  staticTypes := #[(.object "java/io/InputStream"), (.object "java/io/PrintStream"), (.object "java/io/PrintStream"), (.object "java/io/InputStream"), .int, .int, .int, (.object "java/lang/SecurityManager"), (.object "java/lang/String"), (.object "java/io/Console"), (.object "java/io/PrintStream"), (.object "java/util/Properties"), (.object "java/lang/String"), (.object "java/lang/ModuleLayer")]
  resolved := Array.replicate 834 none
  statics := none }

def pool6 : Array CpInfo := pool [(1, .class_ 2), (0, u "java/lang/Cloneable"), (0, .class_ 4), (0, u "java/lang/Object")] 2

/-- java/lang/Cloneable -/
def k6 : Class := { plain "java/lang/Cloneable" (some 0) with
  accessFlags := 1537
  interfaces := #[]
  cf := some (fileOf pool6 1 #[] #[] 1537 3 #[] #[])
  fields := #[]
  methods := #[]
  instanceTypes := #[]
  staticTypes := #[]
  resolved := Array.replicate 7 none
  statics := none }

def pool7 : Array CpInfo := pool [(1, u "java/io/Serializable"), (0, .class_ 1), (0, u "java/lang/Object"), (0, .class_ 3)] 3

/-- java/io/Serializable -/
def k7 : Class := { plain "java/io/Serializable" (some 0) with
  accessFlags := 1537
  interfaces := #[]
  cf := some (fileOf pool7 2 #[] #[] 1537 4 #[] #[])
  fields := #[]
  methods := #[]
  instanceTypes := #[]
  staticTypes := #[]
  resolved := Array.replicate 8 none
  statics := none }

/-- the primitive byte -/
def k8 : Class := { plain "byte" none with kind := .primitive 'B', accessFlags := 0x411 }
/-- [B -/
def k9 : Class := { plain "[B" (some 0) with kind := .array 8 .byte, interfaces := #[6, 7], accessFlags := 1041 }

/-- the primitive int -/
def k10 : Class := { plain "int" none with kind := .primitive 'I', accessFlags := 0x411 }
/-- [I -/
def k11 : Class := { plain "[I" (some 0) with kind := .array 10 .int, interfaces := #[6, 7], accessFlags := 1041 }

/-- the primitive long -/
def k12 : Class := { plain "long" none with kind := .primitive 'J', accessFlags := 0x411 }
/-- [J -/
def k13 : Class := { plain "[J" (some 0) with kind := .array 12 .long, interfaces := #[6, 7], accessFlags := 1041 }

def heap : Heap := #[]
def classes : Array Class := #[k0, k1, k2, k3, k4, k5, k6, k7, k8, k9, k10, k11, k12, k13]
def interned : List (Array UInt16 × Addr) := []
def slotsUsed : Nat := 0
def theMethod : MethodId := ⟨1, 1⟩
def args0 : Array Value := #[.int 3, .int 2, .int 5]
def aboutOver (below : List Frame) : State where
  vm := { classes := classes, interned := interned.toArray }
  heap := heap
  slotsUsed := slotsUsed
  threads := #[{ frames := .invoking theMethod args0 :: below }]
def below0 : List Frame := [.native { method := ⟨0, 0⟩, args := #[] }]
def about1 : State := aboutOver below0
def p0 : Program := .bare "" "" ""
def e0 : Env := launch0.env 0 0 0
theorem w_frames : about1.frames = Frame.invoking theMethod args0 :: below0 := rfl
set_option maxRecDepth 65536 in
theorem w_args : argsFit about1.vm theMethod args0 = true := by decide +kernel
set_option maxRecDepth 65536 in
theorem w_heap : heapFits about1 = true := by decide +kernel
set_option maxRecDepth 65536 in
theorem w_runnable : about1.curStatus? = some .runnable := by decide +kernel
set_option maxRecDepth 65536 in
theorem w_alone : about1.alone = true := by decide +kernel
set_option maxRecDepth 65536 in
theorem w_named : about1.methodNamed? x = some theMethod := by decide +kernel
set_option maxRecDepth 65536 in
theorem w_hears : about1.hears theMethod below0 = true := by decide +kernel
set_option maxRecDepth 65536 in
theorem w_ripe : about1.ripe theMethod args0 below0 = true := by decide +kernel
theorem w_running : about1.status = .running := rfl
set_option maxRecDepth 65536 in
theorem w_room : about1.hasRoom e0.platform room_1 = true :=
  launch0.hasRoom_least _ room_1 (by decide +kernel) (by decide +kernel) (by decide +kernel) (by decide +kernel) (by decide +kernel) (by decide +kernel)
theorem allAtoms_all (ts : List Jvm.Cond) (a : Array Jvm.Value) (st : Jvm.State) : (allAtoms ts).before a st = ts.all (fun c => c.before a st) := by
  induction ts with
  | nil => rfl
  | cons c t ih =>
    show (Jvm.Cond.and c (allAtoms t)).before a st = _
    rw [Jvm.Cond.before_and, ih, List.all_cons]
def words1 : List Jvm.Cond := Jvm.Cond.code x code maxLocals ret :: tables_1
/-- a 'code' word, met by the world's own term for the bytes: nothing is compared byte by byte -/
theorem code_word {y : MethodName} {bytes : ByteArray} {mx : Nat} {rt : Option FieldType} {a : Array Value} {s : State} {m : MethodId} {meth : Method} {c : Code} (h1 : s.methodNamed? y = some m) (h2 : s.vm.method? m = some meth) (h3 : meth.code = some c) (h4 : c.code = bytes)
    (h5 : (c.maxLocals == mx && c.exceptionTable.isEmpty && decide (c.maxStack ≤ mostOperands) && decide (meth.sig.returnType = rt) && !meth.locks && decide (parseMethodDescriptor y.desc = some meth.sig)) = true) : (Jvm.Cond.code y bytes mx rt).before a s = true := by
  simp only [Bool.and_eq_true, beq_iff_eq, Bool.not_eq_true', decide_eq_true_eq] at h5
  obtain ⟨⟨⟨⟨⟨g1, g2⟩, g3⟩, g4⟩, g5⟩, g6⟩ := h5
  simp [Cond.before, Cond.holds, Cond.value, h1, h2, h3, h4, g1, g2, g3, g4, g5, g6]
def isCode : Jvm.Cond → Bool
  | .code _ _ _ _ => true
  | _ => false
theorem all_split {L : List Jvm.Cond} {P : Jvm.Cond → Bool} (h1 : L.all (fun c => isCode c || P c) = true) (h2 : ∀ c ∈ L.filter isCode, P c = true) : L.all P = true := by
  refine List.all_eq_true.mpr fun c hc => ?_
  have h := List.all_eq_true.mp h1 c hc
  rcases Bool.eq_false_or_eq_true (isCode c) with hi | hi
  · exact h2 c (List.mem_filter.mpr ⟨hc, hi⟩)
  · simpa [hi] using h
set_option maxRecDepth 65536 in
theorem w_c0 : (Jvm.Cond.code x code maxLocals ret).before args0 about1 = true := code_word (m := ⟨1, 1⟩) (meth := k1m1) (c := k1c1) (by decide +kernel) rfl rfl rfl (by decide +kernel)
set_option maxRecDepth 65536 in
theorem w_c1 : (Jvm.Cond.code ({ cls := "java/lang/Math", name := "max", desc := "(II)I" } : Jvm.MethodName) jdk_29_method_65_code (2 : Nat) (Option.some Jvm.ClassFile.FieldType.int)).before args0 about1 = true := code_word (m := ⟨2, 1⟩) (meth := k2m1) (c := k2c1) (by decide +kernel) rfl rfl rfl (by decide +kernel)
set_option maxRecDepth 65536 in
theorem w_c2 : (Jvm.Cond.code ({ cls := "com/example/vitruvius/vitruvius/csv/CsvBatch", name := "<init>", desc := "(I)V" } : Jvm.MethodName) prog_1_method_2_code (2 : Nat) (Option.none : Option Jvm.ClassFile.FieldType)).before args0 about1 = true := code_word (m := ⟨3, 1⟩) (meth := k3m1) (c := k3c1) (by decide +kernel) rfl rfl rfl (by decide +kernel)
set_option maxRecDepth 65536 in
theorem w_c3 : (Jvm.Cond.code ({ cls := "java/lang/Object", name := "<init>", desc := "()V" } : Jvm.MethodName) object_method_1_code (1 : Nat) (Option.none : Option Jvm.ClassFile.FieldType)).before args0 about1 = true := code_word (m := ⟨0, 0⟩) (meth := k0m0) (c := k0c0) (by decide +kernel) rfl rfl rfl (by decide +kernel)
set_option maxRecDepth 65536 in
theorem w_c4 : (Jvm.Cond.code ({ cls := "com/example/vitruvius/vitruvius/csv/CsvBatch", name := "grow", desc := "(I)V" } : Jvm.MethodName) prog_1_method_11_code (2 : Nat) (Option.none : Option Jvm.ClassFile.FieldType)).before args0 about1 = true := code_word (m := ⟨3, 5⟩) (meth := k3m5) (c := k3c5) (by decide +kernel) rfl rfl rfl (by decide +kernel)
set_option maxRecDepth 65536 in
theorem w_c5 : (Jvm.Cond.code ({ cls := "java/util/Arrays", name := "copyOf", desc := "([BI)[B" } : Jvm.MethodName) jdk_65_method_121_code (3 : Nat) (Option.some (Jvm.ClassFile.FieldType.array Jvm.ClassFile.FieldType.byte))).before args0 about1 = true := code_word (m := ⟨4, 1⟩) (meth := k4m1) (c := k4c1) (by decide +kernel) rfl rfl rfl (by decide +kernel)
set_option maxRecDepth 65536 in
theorem w_c6 : (Jvm.Cond.code ({ cls := "java/lang/Math", name := "min", desc := "(II)I" } : Jvm.MethodName) jdk_29_method_69_code (2 : Nat) (Option.some Jvm.ClassFile.FieldType.int)).before args0 about1 = true := code_word (m := ⟨2, 2⟩) (meth := k2m2) (c := k2c2) (by decide +kernel) rfl rfl rfl (by decide +kernel)
set_option maxRecDepth 65536 in
theorem w_c7 : (Jvm.Cond.code ({ cls := "com/example/vitruvius/vitruvius/csv/CsvBatch", name := "addField", desc := "(II)V" } : Jvm.MethodName) prog_1_method_14_code (3 : Nat) (Option.none : Option Jvm.ClassFile.FieldType)).before args0 about1 = true := code_word (m := ⟨3, 7⟩) (meth := k3m7) (c := k3c7) (by decide +kernel) rfl rfl rfl (by decide +kernel)
set_option maxRecDepth 65536 in
theorem w_c8 : (Jvm.Cond.code ({ cls := "com/example/vitruvius/vitruvius/csv/CsvBatch", name := "endRecord", desc := "()V" } : Jvm.MethodName) prog_1_method_16_code (1 : Nat) (Option.none : Option Jvm.ClassFile.FieldType)).before args0 about1 = true := code_word (m := ⟨3, 8⟩) (meth := k3m8) (c := k3c8) (by decide +kernel) rfl rfl rfl (by decide +kernel)
set_option maxRecDepth 65536 in
theorem w_c9 : (Jvm.Cond.code ({ cls := "com/example/vitruvius/vitruvius/csv/CsvBatch", name := "bytes", desc := "()[B" } : Jvm.MethodName) prog_1_method_7_code (1 : Nat) (Option.some (Jvm.ClassFile.FieldType.array Jvm.ClassFile.FieldType.byte))).before args0 about1 = true := code_word (m := ⟨3, 4⟩) (meth := k3m4) (c := k3c4) (by decide +kernel) rfl rfl rfl (by decide +kernel)
set_option maxRecDepth 65536 in
theorem w_c10 : (Jvm.Cond.code ({ cls := "com/example/vitruvius/vitruvius/csv/CsvBatch", name := "clear", desc := "(I)V" } : Jvm.MethodName) prog_1_method_12_code (2 : Nat) (Option.none : Option Jvm.ClassFile.FieldType)).before args0 about1 = true := code_word (m := ⟨3, 6⟩) (meth := k3m6) (c := k3c6) (by decide +kernel) rfl rfl rfl (by decide +kernel)
set_option maxRecDepth 65536 in
theorem w_c11 : (Jvm.Cond.code ({ cls := "com/example/vitruvius/vitruvius/csv/CsvBatch", name := "records", desc := "()I" } : Jvm.MethodName) prog_1_method_3_code (1 : Nat) (Option.some Jvm.ClassFile.FieldType.int)).before args0 about1 = true := code_word (m := ⟨3, 2⟩) (meth := k3m2) (c := k3c2) (by decide +kernel) rfl rfl rfl (by decide +kernel)
set_option maxRecDepth 65536 in
theorem w_c12 : (Jvm.Cond.code ({ cls := "com/example/vitruvius/vitruvius/csv/CsvBatch", name := "fields", desc := "(I)I" } : Jvm.MethodName) prog_1_method_4_code (2 : Nat) (Option.some Jvm.ClassFile.FieldType.int)).before args0 about1 = true := code_word (m := ⟨3, 3⟩) (meth := k3m3) (c := k3c3) (by decide +kernel) rfl rfl rfl (by decide +kernel)
def codes1 : List Jvm.Cond := [Jvm.Cond.code x code maxLocals ret, Jvm.Cond.code ({ cls := "java/lang/Math", name := "max", desc := "(II)I" } : Jvm.MethodName) jdk_29_method_65_code (2 : Nat) (Option.some Jvm.ClassFile.FieldType.int), Jvm.Cond.code ({ cls := "com/example/vitruvius/vitruvius/csv/CsvBatch", name := "<init>", desc := "(I)V" } : Jvm.MethodName) prog_1_method_2_code (2 : Nat) (Option.none : Option Jvm.ClassFile.FieldType), Jvm.Cond.code ({ cls := "java/lang/Object", name := "<init>", desc := "()V" } : Jvm.MethodName) object_method_1_code (1 : Nat) (Option.none : Option Jvm.ClassFile.FieldType), Jvm.Cond.code ({ cls := "com/example/vitruvius/vitruvius/csv/CsvBatch", name := "grow", desc := "(I)V" } : Jvm.MethodName) prog_1_method_11_code (2 : Nat) (Option.none : Option Jvm.ClassFile.FieldType), Jvm.Cond.code ({ cls := "java/util/Arrays", name := "copyOf", desc := "([BI)[B" } : Jvm.MethodName) jdk_65_method_121_code (3 : Nat) (Option.some (Jvm.ClassFile.FieldType.array Jvm.ClassFile.FieldType.byte)), Jvm.Cond.code ({ cls := "java/lang/Math", name := "min", desc := "(II)I" } : Jvm.MethodName) jdk_29_method_69_code (2 : Nat) (Option.some Jvm.ClassFile.FieldType.int), Jvm.Cond.code ({ cls := "com/example/vitruvius/vitruvius/csv/CsvBatch", name := "addField", desc := "(II)V" } : Jvm.MethodName) prog_1_method_14_code (3 : Nat) (Option.none : Option Jvm.ClassFile.FieldType), Jvm.Cond.code ({ cls := "com/example/vitruvius/vitruvius/csv/CsvBatch", name := "endRecord", desc := "()V" } : Jvm.MethodName) prog_1_method_16_code (1 : Nat) (Option.none : Option Jvm.ClassFile.FieldType), Jvm.Cond.code ({ cls := "com/example/vitruvius/vitruvius/csv/CsvBatch", name := "bytes", desc := "()[B" } : Jvm.MethodName) prog_1_method_7_code (1 : Nat) (Option.some (Jvm.ClassFile.FieldType.array Jvm.ClassFile.FieldType.byte)), Jvm.Cond.code ({ cls := "com/example/vitruvius/vitruvius/csv/CsvBatch", name := "clear", desc := "(I)V" } : Jvm.MethodName) prog_1_method_12_code (2 : Nat) (Option.none : Option Jvm.ClassFile.FieldType), Jvm.Cond.code ({ cls := "com/example/vitruvius/vitruvius/csv/CsvBatch", name := "records", desc := "()I" } : Jvm.MethodName) prog_1_method_3_code (1 : Nat) (Option.some Jvm.ClassFile.FieldType.int), Jvm.Cond.code ({ cls := "com/example/vitruvius/vitruvius/csv/CsvBatch", name := "fields", desc := "(I)I" } : Jvm.MethodName) prog_1_method_4_code (2 : Nat) (Option.some Jvm.ClassFile.FieldType.int)]
set_option maxRecDepth 65536 in
theorem codes_eq : words1.filter isCode = codes1 := rfl
theorem w_codes : ∀ c ∈ words1.filter isCode, c.before args0 about1 = true := by
  rw [codes_eq]
  intro c hc
  simp only [codes1, List.mem_cons, List.not_mem_nil, or_false] at hc
  rcases hc with rfl | rfl | rfl | rfl | rfl | rfl | rfl | rfl | rfl | rfl | rfl | rfl | rfl
  · exact w_c0
  · exact w_c1
  · exact w_c2
  · exact w_c3
  · exact w_c4
  · exact w_c5
  · exact w_c6
  · exact w_c7
  · exact w_c8
  · exact w_c9
  · exact w_c10
  · exact w_c11
  · exact w_c12
set_option maxRecDepth 65536 in
theorem w_t1 : (words1.take 24).all (fun c => isCode c || c.before args0 about1) = true := by decide +kernel
set_option maxRecDepth 65536 in
theorem w_t2 : ((words1.drop 24).take 24).all (fun c => isCode c || c.before args0 about1) = true := by decide +kernel
set_option maxRecDepth 65536 in
theorem w_t3 : (((words1.drop 24).drop 24).take 24).all (fun c => isCode c || c.before args0 about1) = true := by decide +kernel
set_option maxRecDepth 65536 in
theorem w_t4 : (((words1.drop 24).drop 24).drop 24).all (fun c => isCode c || c.before args0 about1) = true := by decide +kernel
theorem w_tables : (allAtoms (Jvm.Cond.code x code maxLocals ret :: tables_1)).before args0 about1 = true := by
  rw [allAtoms_all]
  show words1.all (fun c => c.before args0 about1) = true
  refine all_split ?_ w_codes
  rw [← List.take_append_drop 24 words1, List.all_append, w_t1, ← List.take_append_drop 24 (words1.drop 24), List.all_append, w_t2, ← List.take_append_drop 24 ((words1.drop 24).drop 24), List.all_append, w_t3, w_t4]
  rfl
set_option maxRecDepth 65536 in
theorem w_case : (Jvm.Cond.and given_1 narrow_1).before args0 about1 = true := by decide +kernel
theorem w_applies : (headSpec (Jvm.Cond.code x code maxLocals ret :: tables_1) room_1).applies x e0.platform about1 = true :=
  (Spec.applies_iff w_frames).mpr ⟨w_running, w_runnable, w_alone, w_named, w_hears, w_ripe, w_room, w_tables⟩
theorem atStart : AtStart classFile x code maxLocals ret World_1 tables_1 room_1 Calls_1 rest_1 Pre_1 launch0 p0 e0 about1 theMethod args0 below0 :=
  ⟨lists_1, trivial, launch0.admits_env _ _ _, launch0.least_env, fairChoices_fair.cas, fairChoices_fair.clock, w_frames, w_args, w_heap, w_applies, trivial, trivial, w_case⟩
end start1
theorem witness_1 : WitnessClaimed_1 := ⟨start1.p0, start1.e0, start1.about1, start1.theMethod, start1.args0, start1.below0, start1.atStart⟩
end Jvm.Pilot.@@N@@

import JvmDerived
import JvmDerived.Pilot.@@N@@Statement
import JvmDerived.Pilot.@@N@@Code
set_option linter.unusedVariables false
set_option linter.unusedSimpArgs false
namespace Jvm.OwnGo
open Jvm Jvm.ClassFile Sem Op Lib Jvm.Free Jvm.Stand Jvm.LawKit Jvm.RoadKit Bundle
/-- from A the invocation ends and returns what Q takes; what was written lies at n0 or above -/
def Go (p : Program) (e : Env) (below : List Frame) (s : State) (n0 k n : Nat) (Q : Option Value → Heap → Prop) (A : State) : Prop :=
  ∃ t o, Steps p.tables e below A t ∧ t.status = .running ∧ Ended t below o ∧ ∃ v L, o = .returned v ∧ (Q v t.heap ∧ Fr n0 L) ∧ FrameEnd s o t L k n
/-- what stays as it is through a walk -/
def Ctx (p : Program) (s : State) (m : MethodId) (meth : Method) (c : Code) (Z : State) (a0 : Array Value) (ws : List Jvm.Cond) (own nm : String) (bytes : ByteArray) (ml : Nat) (ret : Option FieldType) : Prop :=
  p.tables.exec = Jvm.exec ∧ Z.Warmed39 s.vm ∧ (∀ d ∈ ws, d.before a0 Z = true) ∧ s.vm.findClass own = some m.cls ∧ meth.name = nm ∧ c.code = bytes ∧ c.maxLocals = ml ∧ meth.sig.returnType = ret ∧ meth.locks = false
/-- where a walk stands -/
def St (p : Program) (l : Launch) (e : Env) (R : Room) (s : State) (m : MethodId) (args : Array Value) (below : List Frame) (meth : Method) (c : Code) (n0 : Nat) (T : State) (h : Heap) (cells slots : Nat) : Prop :=
  T.heap = h ∧ n0 ≤ s.heap.size ∧ ∃ locs, Fr n0 locs ∧ Stand p l e R s m args below meth c T locs cells slots
/-- an array: its elements, one by one -/
def AR (Z : State) (h : Heap) (a : Addr) (ty : FieldType) (vs : List Value) : Prop := ∃ c : Cell, Arr Z h a c ty ∧ c.slots = vs.toArray ∧ vs.length < 2 ^ 31
/-- a method's contract at one heap -/
def Con (l : Launch) (Z : State) (y : MethodName) (bytes : ByteArray) (ml : Nat) (ret : Option FieldType) (wx : List Jvm.Cond) (rm : Room) (n0 : Nat) (as : Array Value) (h0 : Heap) (Q : Option Value → Heap → Prop) : Prop :=
  MetFree l y (head1 (Jvm.Cond.code y bytes ml ret :: wx) rm) (fun a U => a = as ∧ Z.Warmed39 U.vm ∧ U.heap = h0) (fun _ _ _ _ _ => True) (fun _ U o U' => ∃ v L, o = .returned v ∧ (Q v U'.heap ∧ Fr n0 L) ∧ FrameEnd U o U' L rm.cells rm.slots)
section One
variable {p : Program} {l : Launch} {e : Env} {R : Room} {s : State} {m : MethodId} {args : Array Value} {below : List Frame} {meth : Method} {c : Code} {T : State} {h h' : Heap} {n0 cells slots k n : Nat} {Q : Option Value → Heap → Prop} {A B Z : State} {a0 : Array Value} {ws : List Jvm.Cond} {own nm : String} {bytes : ByteArray} {ml pc : Nat} {ret : Option FieldType} {Ls : Array Slot} {rest stk : List Value}
def ius (x y : Int32) : Int32 := (x.toUInt32 >>> (y &&& 31).toUInt32).toInt32
def lus (x : Int64) (y : Int32) : Int64 := (x.toUInt64 >>> (y &&& 0x3f).toInt64.toUInt64).toInt64
theorem tm0 (x d : Int) : x.tmod d = 0 ↔ x % d = 0 := ⟨fun h => Int.emod_eq_zero_of_dvd (Int.dvd_of_tmod_eq_zero h), fun h => Int.tmod_eq_zero_of_dvd (Int.dvd_of_emod_eq_zero h)⟩
theorem irr (x : Int32) : ¬ x < x := by rw [Int32.lt_iff_toInt_lt]; omega
theorem wd {ws : List Jvm.Cond} (i : Nat) {d : Jvm.Cond} (q : ws[i]? = some d) : d ∈ ws := List.mem_of_getElem? q
theorem Ctx.hx (C : Ctx p s m meth c Z a0 ws own nm bytes ml ret) : p.tables.exec = Jvm.exec := C.1
theorem Ctx.hZ (C : Ctx p s m meth c Z a0 ws own nm bytes ml ret) : Z.Warmed39 s.vm := C.2.1
theorem Ctx.w (C : Ctx p s m meth c Z a0 ws own nm bytes ml ret) {d : Jvm.Cond} (q : d ∈ ws) : d.before a0 Z = true := C.2.2.1 d q
theorem Ctx.hown (C : Ctx p s m meth c Z a0 ws own nm bytes ml ret) : s.vm.findClass own = some m.cls := C.2.2.2.1
theorem Ctx.hnm (C : Ctx p s m meth c Z a0 ws own nm bytes ml ret) : meth.name = nm := C.2.2.2.2.1
theorem Ctx.hby (C : Ctx p s m meth c Z a0 ws own nm bytes ml ret) : c.code = bytes := C.2.2.2.2.2.1
theorem Ctx.hml (C : Ctx p s m meth c Z a0 ws own nm bytes ml ret) : c.maxLocals = ml := C.2.2.2.2.2.2.1
theorem Ctx.hret (C : Ctx p s m meth c Z a0 ws own nm bytes ml ret) : meth.sig.returnType = ret := C.2.2.2.2.2.2.2.1
theorem Ctx.hlk (C : Ctx p s m meth c Z a0 ws own nm bytes ml ret) : meth.locks = false := C.2.2.2.2.2.2.2.2
theorem St.here (X : St p l e R s m args below meth c n0 T h cells slots) : At T m c below := by obtain ⟨-, -, _, -, X⟩ := X; exact X.here
theorem St.size (X : St p l e R s m args below meth c n0 T h cells slots) : n0 ≤ h.size := by
  obtain ⟨rfl, hz, _, -, X⟩ := X
  exact Nat.le_trans hz X.same.2.1
theorem St.mono (X : St p l e R s m args below meth c n0 T h cells slots) {cells' slots' : Nat} (h1 : cells ≤ cells') (h2 : slots ≤ slots') : St p l e R s m args below meth c n0 T h cells' slots' := by
  obtain ⟨e0, hz, locs, N, X⟩ := X
  exact ⟨e0, hz, locs, N, { X with same := X.same.mono h1 h2 }⟩
theorem Go.st (q : ∀ t, Steps p.tables e below B t → Steps p.tables e below A t) (g : Go p e below s n0 k n Q B) : Go p e below s n0 k n Q A := by
  obtain ⟨t, o, h1, r⟩ := g
  exact ⟨t, o, q t h1, r⟩
theorem Go.tr (q : Steps p.tables e below A B) (g : Go p e below s n0 k n Q B) : Go p e below s n0 k n Q A := Go.st (fun _ r => q.trans r) g
theorem Con.mk {y : MethodName} {wx : List Jvm.Cond} {rm : Room} {as : Array Value} {h0 : Heap} (hp : plainFor y = true) (hw : ∀ d ∈ ws, d.before a0 Z = true) (hz : n0 ≤ h0.size)
    (H : ∀ (p : Program) (e : Env) (s : State) (m : MethodId) (below : List Frame) (meth : Method) (c : Code) (T : State), Ctx p s m meth c Z a0 ws y.cls y.name bytes ml ret → St p l e rm s m as below meth c n0 T h0 0 0 → Go p e below s n0 rm.cells rm.slots Q (T.setTop (entryFrame m as ml))) : Con l Z y bytes ml ret wx rm n0 as h0 Q := by
  refine MetFree.of_bodySF hp hisR ?_
  intro p e s m args below meth c s₁ Bd hml hP hK
  obtain ⟨rfl, hZ, hh⟩ := hP
  have hE : s₁.heap = h0 := by rw [← hh, Bd.state]; rfl
  exact H p e s m below meth c s₁ ⟨Bd.exec, hZ, hw, findClass_of_methodNamed Bd.named, (name_of_methodNamed Bd.named Bd.method).1, Bd.bytes, hml, Bd.returns, BodyLoose.notSynchronized Bd⟩ ⟨hE, by rw [hh]; exact hz, [], Fr.nil n0, Stand.of_body Bd⟩
theorem Go.retAny (C : Ctx p s m meth c Z a0 ws own nm bytes ml ret) (X : St p l e R s m args below meth c n0 T h cells slots) {w : Value} {t : FieldType} {i : Instr} (hret : ret = some t) (hn : narrow t w = w)
    (hi : (i = .ireturn ∧ (t = .int ∨ t = .boolean ∨ t = .byte ∨ t = .char ∨ t = .short) ∧ ∃ z, w = .int z) ∨ (i = .lreturn ∧ t = .long ∧ ∃ z, w = .long z) ∨ (i = .dreturn ∧ t = .double ∧ ∃ z, w = .double z) ∨ (i = .freturn ∧ t = .float ∧ ∃ z, w = .float z) ∨ (i = .areturn ∧ t.isReference = true ∧ w.isRef = true))
    (hd : decode bytes pc = .ok (i, 1)) (hQ : Q (some w) h) (hk : cells ≤ k) (hs : slots ≤ n) : Go p e below s n0 k n Q (T.setTop (mkF m pc Ls (w :: rest))) := by
  obtain ⟨rfl, hz, locs, N, X⟩ := X
  obtain ⟨fs, hr, hrun, hended, hW, hsame⟩ := X.leave (v := some w) (fun q => by rw [C.hret, hret] at q; cases q) C.hlk
  exact ⟨_, _, retOut X C.hx (C.hret.trans hret) hn hi (hb C.hby hd) hr, hrun, hended, _, _, rfl, ⟨hQ, N⟩, ⟨_, rfl⟩, hW, hsame.mono hk hs⟩
theorem Go.retI (C : Ctx p s m meth c Z a0 ws own nm bytes ml (some .int)) (X : St p l e R s m args below meth c n0 T h cells slots) {z : Int32} (hd : decode bytes pc = .ok (.ireturn, 1)) (hQ : Q (some (.int z)) h) (hk : cells ≤ k) (hs : slots ≤ n) : Go p e below s n0 k n Q (T.setTop (mkF m pc Ls (.int z :: rest))) :=
  Go.retAny C X rfl rfl (Or.inl ⟨rfl, Or.inl rfl, _, rfl⟩) hd hQ hk hs
theorem Go.retZ (C : Ctx p s m meth c Z a0 ws own nm bytes ml (some .boolean)) (X : St p l e R s m args below meth c n0 T h cells slots) {z : Int32} (hz : z = 0 ∨ z = 1) (hd : decode bytes pc = .ok (.ireturn, 1)) (hQ : Q (some (.int z)) h) (hk : cells ≤ k) (hs : slots ≤ n) : Go p e below s n0 k n Q (T.setTop (mkF m pc Ls (.int z :: rest))) :=
  Go.retAny C X rfl (by rcases hz with rfl | rfl <;> rfl) (Or.inl ⟨rfl, Or.inr (Or.inl rfl), _, rfl⟩) hd hQ hk hs
theorem Go.retJ (C : Ctx p s m meth c Z a0 ws own nm bytes ml (some .long)) (X : St p l e R s m args below meth c n0 T h cells slots) {z : Int64} (hd : decode bytes pc = .ok (.lreturn, 1)) (hQ : Q (some (.long z)) h) (hk : cells ≤ k) (hs : slots ≤ n) : Go p e below s n0 k n Q (T.setTop (mkF m pc Ls (.long z :: rest))) :=
  Go.retAny C X rfl rfl (Or.inr (Or.inl ⟨rfl, rfl, _, rfl⟩)) hd hQ hk hs
theorem Go.retA {t : FieldType} (C : Ctx p s m meth c Z a0 ws own nm bytes ml (some t)) (X : St p l e R s m args below meth c n0 T h cells slots) {v : Value} (ht : t.isReference = true) (hv : v.isRef = true) (hd : decode bytes pc = .ok (.areturn, 1)) (hQ : Q (some v) h) (hk : cells ≤ k) (hs : slots ≤ n) : Go p e below s n0 k n Q (T.setTop (mkF m pc Ls (v :: rest))) :=
  Go.retAny C X rfl (by cases t <;> cases v <;> first | rfl | (simp [FieldType.isReference] at ht; done) | (simp [Value.isRef] at hv; done)) (Or.inr (Or.inr (Or.inr (Or.inr ⟨rfl, ht, hv⟩)))) hd hQ hk hs
theorem Go.retV (C : Ctx p s m meth c Z a0 ws own nm bytes ml none) (X : St p l e R s m args below meth c n0 T h cells slots) (hd : decode bytes pc = .ok (.return_, 1)) (hQ : Q none h) (hk : cells ≤ k) (hs : slots ≤ n) : Go p e below s n0 k n Q (T.setTop (mkF m pc Ls [])) := by
  obtain ⟨rfl, hz, locs, N, X⟩ := X
  obtain ⟨fs, hr, hrun, hended, hW, hsame⟩ := X.leave (v := none) (fun _ => rfl) C.hlk
  exact ⟨_, _, X.returnOut C.hx C.hret (hb C.hby hd) hr, hrun, hended, _, _, rfl, ⟨hQ, N⟩, ⟨_, rfl⟩, hW, hsame.mono hk hs⟩
theorem Go.if_eq (C : Ctx p s m meth c Z a0 ws own nm bytes ml ret) (X : St p l e R s m args below meth c n0 T h cells slots) {x : Int32} {o : Int} {pc' : Nat} (hd : decode bytes pc = .ok (.ifCond .eq o, 3)) (ho : 0 ≤ (pc : Int) + o) (hp : ((pc : Int) + o).toNat = pc') (Y : x = 0 → Go p e below s n0 k n Q (T.setTop (mkF m pc' Ls rest))) (N : ¬ x = 0 → Go p e below s n0 k n Q (T.setTop (mkF m (pc + 3) Ls rest))) : Go p e below s n0 k n Q (T.setTop (mkF m pc Ls (.int x :: rest))) := by
  by_cases q : x = 0
  · exact Go.st (fun _ => XS.ifYes X.here C.hx rfl rfl (hb C.hby hd) rfl (by simpa [ifCond.holds] using q) ho hp) (Y q)
  · exact Go.st (fun _ => XS.ifNo X.here C.hx rfl (hb C.hby hd) rfl (by simpa [ifCond.holds] using q) ) (N q)
theorem Go.icmp_eq (C : Ctx p s m meth c Z a0 ws own nm bytes ml ret) (X : St p l e R s m args below meth c n0 T h cells slots) {x y : Int32} {o : Int} {pc' : Nat} (hd : decode bytes pc = .ok (.if_icmp .eq o, 3)) (ho : 0 ≤ (pc : Int) + o) (hp : ((pc : Int) + o).toNat = pc') (Y : x = y → Go p e below s n0 k n Q (T.setTop (mkF m pc' Ls rest))) (N : ¬ x = y → Go p e below s n0 k n Q (T.setTop (mkF m (pc + 3) Ls rest))) : Go p e below s n0 k n Q (T.setTop (mkF m pc Ls (.int y :: .int x :: rest))) := by
  by_cases q : x = y
  · exact Go.st (fun _ => XS.icmpYes X.here C.hx rfl rfl (hb C.hby hd) rfl (by simpa [if_icmp.holds] using q) ho hp) (Y q)
  · exact Go.st (fun _ => XS.icmpNo X.here C.hx rfl (hb C.hby hd) rfl (by simpa [if_icmp.holds] using q) ) (N q)
theorem Go.if_ne (C : Ctx p s m meth c Z a0 ws own nm bytes ml ret) (X : St p l e R s m args below meth c n0 T h cells slots) {x : Int32} {o : Int} {pc' : Nat} (hd : decode bytes pc = .ok (.ifCond .ne o, 3)) (ho : 0 ≤ (pc : Int) + o) (hp : ((pc : Int) + o).toNat = pc') (Y : ¬ x = 0 → Go p e below s n0 k n Q (T.setTop (mkF m pc' Ls rest))) (N : x = 0 → Go p e below s n0 k n Q (T.setTop (mkF m (pc + 3) Ls rest))) : Go p e below s n0 k n Q (T.setTop (mkF m pc Ls (.int x :: rest))) := by
  by_cases q : x = 0
  · exact Go.st (fun _ => XS.ifNo X.here C.hx rfl (hb C.hby hd) rfl (by simpa [ifCond.holds] using q) ) (N q)
  · exact Go.st (fun _ => XS.ifYes X.here C.hx rfl rfl (hb C.hby hd) rfl (by simpa [ifCond.holds] using q) ho hp) (Y q)
theorem Go.icmp_ne (C : Ctx p s m meth c Z a0 ws own nm bytes ml ret) (X : St p l e R s m args below meth c n0 T h cells slots) {x y : Int32} {o : Int} {pc' : Nat} (hd : decode bytes pc = .ok (.if_icmp .ne o, 3)) (ho : 0 ≤ (pc : Int) + o) (hp : ((pc : Int) + o).toNat = pc') (Y : ¬ x = y → Go p e below s n0 k n Q (T.setTop (mkF m pc' Ls rest))) (N : x = y → Go p e below s n0 k n Q (T.setTop (mkF m (pc + 3) Ls rest))) : Go p e below s n0 k n Q (T.setTop (mkF m pc Ls (.int y :: .int x :: rest))) := by
  by_cases q : x = y
  · exact Go.st (fun _ => XS.icmpNo X.here C.hx rfl (hb C.hby hd) rfl (by simpa [if_icmp.holds] using q) ) (N q)
  · exact Go.st (fun _ => XS.icmpYes X.here C.hx rfl rfl (hb C.hby hd) rfl (by simpa [if_icmp.holds] using q) ho hp) (Y q)
theorem Go.if_lt (C : Ctx p s m meth c Z a0 ws own nm bytes ml ret) (X : St p l e R s m args below meth c n0 T h cells slots) {x : Int32} {o : Int} {pc' : Nat} (hd : decode bytes pc = .ok (.ifCond .lt o, 3)) (ho : 0 ≤ (pc : Int) + o) (hp : ((pc : Int) + o).toNat = pc') (Y : x < 0 → Go p e below s n0 k n Q (T.setTop (mkF m pc' Ls rest))) (N : ¬ x < 0 → Go p e below s n0 k n Q (T.setTop (mkF m (pc + 3) Ls rest))) : Go p e below s n0 k n Q (T.setTop (mkF m pc Ls (.int x :: rest))) := by
  by_cases q : x < 0
  · exact Go.st (fun _ => XS.ifYes X.here C.hx rfl rfl (hb C.hby hd) rfl (by simpa [ifCond.holds] using q) ho hp) (Y q)
  · exact Go.st (fun _ => XS.ifNo X.here C.hx rfl (hb C.hby hd) rfl (by simpa [ifCond.holds] using q) ) (N q)
theorem Go.icmp_lt (C : Ctx p s m meth c Z a0 ws own nm bytes ml ret) (X : St p l e R s m args below meth c n0 T h cells slots) {x y : Int32} {o : Int} {pc' : Nat} (hd : decode bytes pc = .ok (.if_icmp .lt o, 3)) (ho : 0 ≤ (pc : Int) + o) (hp : ((pc : Int) + o).toNat = pc') (Y : x < y → Go p e below s n0 k n Q (T.setTop (mkF m pc' Ls rest))) (N : ¬ x < y → Go p e below s n0 k n Q (T.setTop (mkF m (pc + 3) Ls rest))) : Go p e below s n0 k n Q (T.setTop (mkF m pc Ls (.int y :: .int x :: rest))) := by
  by_cases q : x < y
  · exact Go.st (fun _ => XS.icmpYes X.here C.hx rfl rfl (hb C.hby hd) rfl (by simpa [if_icmp.holds] using q) ho hp) (Y q)
  · exact Go.st (fun _ => XS.icmpNo X.here C.hx rfl (hb C.hby hd) rfl (by simpa [if_icmp.holds] using q) ) (N q)
theorem Go.if_ge (C : Ctx p s m meth c Z a0 ws own nm bytes ml ret) (X : St p l e R s m args below meth c n0 T h cells slots) {x : Int32} {o : Int} {pc' : Nat} (hd : decode bytes pc = .ok (.ifCond .ge o, 3)) (ho : 0 ≤ (pc : Int) + o) (hp : ((pc : Int) + o).toNat = pc') (Y : ¬ x < 0 → Go p e below s n0 k n Q (T.setTop (mkF m pc' Ls rest))) (N : x < 0 → Go p e below s n0 k n Q (T.setTop (mkF m (pc + 3) Ls rest))) : Go p e below s n0 k n Q (T.setTop (mkF m pc Ls (.int x :: rest))) := by
  by_cases q : x < 0
  · exact Go.st (fun _ => XS.ifNo X.here C.hx rfl (hb C.hby hd) rfl (by simpa [ifCond.holds, Int32.not_lt] using q) ) (N q)
  · exact Go.st (fun _ => XS.ifYes X.here C.hx rfl rfl (hb C.hby hd) rfl (by simpa [ifCond.holds, Int32.not_lt] using q) ho hp) (Y q)
theorem Go.icmp_ge (C : Ctx p s m meth c Z a0 ws own nm bytes ml ret) (X : St p l e R s m args below meth c n0 T h cells slots) {x y : Int32} {o : Int} {pc' : Nat} (hd : decode bytes pc = .ok (.if_icmp .ge o, 3)) (ho : 0 ≤ (pc : Int) + o) (hp : ((pc : Int) + o).toNat = pc') (Y : ¬ x < y → Go p e below s n0 k n Q (T.setTop (mkF m pc' Ls rest))) (N : x < y → Go p e below s n0 k n Q (T.setTop (mkF m (pc + 3) Ls rest))) : Go p e below s n0 k n Q (T.setTop (mkF m pc Ls (.int y :: .int x :: rest))) := by
  by_cases q : x < y
  · exact Go.st (fun _ => XS.icmpNo X.here C.hx rfl (hb C.hby hd) rfl (by simpa [if_icmp.holds, Int32.not_lt] using q) ) (N q)
  · exact Go.st (fun _ => XS.icmpYes X.here C.hx rfl rfl (hb C.hby hd) rfl (by simpa [if_icmp.holds, Int32.not_lt] using q) ho hp) (Y q)
theorem Go.if_gt (C : Ctx p s m meth c Z a0 ws own nm bytes ml ret) (X : St p l e R s m args below meth c n0 T h cells slots) {x : Int32} {o : Int} {pc' : Nat} (hd : decode bytes pc = .ok (.ifCond .gt o, 3)) (ho : 0 ≤ (pc : Int) + o) (hp : ((pc : Int) + o).toNat = pc') (Y : 0 < x → Go p e below s n0 k n Q (T.setTop (mkF m pc' Ls rest))) (N : ¬ 0 < x → Go p e below s n0 k n Q (T.setTop (mkF m (pc + 3) Ls rest))) : Go p e below s n0 k n Q (T.setTop (mkF m pc Ls (.int x :: rest))) := by
  by_cases q : 0 < x
  · exact Go.st (fun _ => XS.ifYes X.here C.hx rfl rfl (hb C.hby hd) rfl (by simpa [ifCond.holds] using q) ho hp) (Y q)
  · exact Go.st (fun _ => XS.ifNo X.here C.hx rfl (hb C.hby hd) rfl (by simpa [ifCond.holds] using q) ) (N q)
theorem Go.icmp_gt (C : Ctx p s m meth c Z a0 ws own nm bytes ml ret) (X : St p l e R s m args below meth c n0 T h cells slots) {x y : Int32} {o : Int} {pc' : Nat} (hd : decode bytes pc = .ok (.if_icmp .gt o, 3)) (ho : 0 ≤ (pc : Int) + o) (hp : ((pc : Int) + o).toNat = pc') (Y : y < x → Go p e below s n0 k n Q (T.setTop (mkF m pc' Ls rest))) (N : ¬ y < x → Go p e below s n0 k n Q (T.setTop (mkF m (pc + 3) Ls rest))) : Go p e below s n0 k n Q (T.setTop (mkF m pc Ls (.int y :: .int x :: rest))) := by
  by_cases q : y < x
  · exact Go.st (fun _ => XS.icmpYes X.here C.hx rfl rfl (hb C.hby hd) rfl (by simpa [if_icmp.holds] using q) ho hp) (Y q)
  · exact Go.st (fun _ => XS.icmpNo X.here C.hx rfl (hb C.hby hd) rfl (by simpa [if_icmp.holds] using q) ) (N q)
theorem Go.if_le (C : Ctx p s m meth c Z a0 ws own nm bytes ml ret) (X : St p l e R s m args below meth c n0 T h cells slots) {x : Int32} {o : Int} {pc' : Nat} (hd : decode bytes pc = .ok (.ifCond .le o, 3)) (ho : 0 ≤ (pc : Int) + o) (hp : ((pc : Int) + o).toNat = pc') (Y : ¬ 0 < x → Go p e below s n0 k n Q (T.setTop (mkF m pc' Ls rest))) (N : 0 < x → Go p e below s n0 k n Q (T.setTop (mkF m (pc + 3) Ls rest))) : Go p e below s n0 k n Q (T.setTop (mkF m pc Ls (.int x :: rest))) := by
  by_cases q : 0 < x
  · exact Go.st (fun _ => XS.ifNo X.here C.hx rfl (hb C.hby hd) rfl (by simpa [ifCond.holds, Int32.not_lt] using q) ) (N q)
  · exact Go.st (fun _ => XS.ifYes X.here C.hx rfl rfl (hb C.hby hd) rfl (by simpa [ifCond.holds, Int32.not_lt] using q) ho hp) (Y q)
theorem Go.icmp_le (C : Ctx p s m meth c Z a0 ws own nm bytes ml ret) (X : St p l e R s m args below meth c n0 T h cells slots) {x y : Int32} {o : Int} {pc' : Nat} (hd : decode bytes pc = .ok (.if_icmp .le o, 3)) (ho : 0 ≤ (pc : Int) + o) (hp : ((pc : Int) + o).toNat = pc') (Y : ¬ y < x → Go p e below s n0 k n Q (T.setTop (mkF m pc' Ls rest))) (N : y < x → Go p e below s n0 k n Q (T.setTop (mkF m (pc + 3) Ls rest))) : Go p e below s n0 k n Q (T.setTop (mkF m pc Ls (.int y :: .int x :: rest))) := by
  by_cases q : y < x
  · exact Go.st (fun _ => XS.icmpNo X.here C.hx rfl (hb C.hby hd) rfl (by simpa [if_icmp.holds, Int32.not_lt] using q) ) (N q)
  · exact Go.st (fun _ => XS.icmpYes X.here C.hx rfl rfl (hb C.hby hd) rfl (by simpa [if_icmp.holds, Int32.not_lt] using q) ho hp) (Y q)
theorem Go.lif_eq (C : Ctx p s m meth c Z a0 ws own nm bytes ml ret) (X : St p l e R s m args below meth c n0 T h cells slots) {x y : Int64} {o : Int} {pc' : Nat} (hd : decode bytes pc = .ok (.ifCond .eq o, 3)) (ho : 0 ≤ (pc : Int) + o) (hp : ((pc : Int) + o).toNat = pc') (Y : x = y → Go p e below s n0 k n Q (T.setTop (mkF m pc' Ls rest))) (N : ¬ x = y → Go p e below s n0 k n Q (T.setTop (mkF m (pc + 3) Ls rest))) : Go p e below s n0 k n Q (T.setTop (mkF m pc Ls (.int (lcmpW x y) :: rest))) := by
  have q := lc_eq x y
  rw [← lcW] at q
  exact Go.if_eq C X hd ho hp (fun r => Y (q.mp r)) (fun r => N (fun u => r (q.mpr u)))
theorem Go.lif_ne (C : Ctx p s m meth c Z a0 ws own nm bytes ml ret) (X : St p l e R s m args below meth c n0 T h cells slots) {x y : Int64} {o : Int} {pc' : Nat} (hd : decode bytes pc = .ok (.ifCond .ne o, 3)) (ho : 0 ≤ (pc : Int) + o) (hp : ((pc : Int) + o).toNat = pc') (Y : ¬ x = y → Go p e below s n0 k n Q (T.setTop (mkF m pc' Ls rest))) (N : x = y → Go p e below s n0 k n Q (T.setTop (mkF m (pc + 3) Ls rest))) : Go p e below s n0 k n Q (T.setTop (mkF m pc Ls (.int (lcmpW x y) :: rest))) := by
  have q := lc_eq x y
  rw [← lcW] at q
  exact Go.if_ne C X hd ho hp (fun r => Y (fun u => r (q.mpr u))) (fun r => N (q.mp r))
theorem Go.lif_lt (C : Ctx p s m meth c Z a0 ws own nm bytes ml ret) (X : St p l e R s m args below meth c n0 T h cells slots) {x y : Int64} {o : Int} {pc' : Nat} (hd : decode bytes pc = .ok (.ifCond .lt o, 3)) (ho : 0 ≤ (pc : Int) + o) (hp : ((pc : Int) + o).toNat = pc') (Y : x < y → Go p e below s n0 k n Q (T.setTop (mkF m pc' Ls rest))) (N : ¬ x < y → Go p e below s n0 k n Q (T.setTop (mkF m (pc + 3) Ls rest))) : Go p e below s n0 k n Q (T.setTop (mkF m pc Ls (.int (lcmpW x y) :: rest))) := by
  have q := lc_lt x y
  rw [← lcW] at q
  exact Go.if_lt C X hd ho hp (fun r => Y (q.mp r)) (fun r => N (fun u => r (q.mpr u)))
theorem Go.lif_ge (C : Ctx p s m meth c Z a0 ws own nm bytes ml ret) (X : St p l e R s m args below meth c n0 T h cells slots) {x y : Int64} {o : Int} {pc' : Nat} (hd : decode bytes pc = .ok (.ifCond .ge o, 3)) (ho : 0 ≤ (pc : Int) + o) (hp : ((pc : Int) + o).toNat = pc') (Y : ¬ x < y → Go p e below s n0 k n Q (T.setTop (mkF m pc' Ls rest))) (N : x < y → Go p e below s n0 k n Q (T.setTop (mkF m (pc + 3) Ls rest))) : Go p e below s n0 k n Q (T.setTop (mkF m pc Ls (.int (lcmpW x y) :: rest))) := by
  have q := lc_lt x y
  rw [← lcW] at q
  exact Go.if_ge C X hd ho hp (fun r => Y (fun u => r (q.mpr u))) (fun r => N (q.mp r))
theorem Go.lif_gt (C : Ctx p s m meth c Z a0 ws own nm bytes ml ret) (X : St p l e R s m args below meth c n0 T h cells slots) {x y : Int64} {o : Int} {pc' : Nat} (hd : decode bytes pc = .ok (.ifCond .gt o, 3)) (ho : 0 ≤ (pc : Int) + o) (hp : ((pc : Int) + o).toNat = pc') (Y : y < x → Go p e below s n0 k n Q (T.setTop (mkF m pc' Ls rest))) (N : ¬ y < x → Go p e below s n0 k n Q (T.setTop (mkF m (pc + 3) Ls rest))) : Go p e below s n0 k n Q (T.setTop (mkF m pc Ls (.int (lcmpW x y) :: rest))) := by
  have q := lc_gt x y
  rw [← lcW] at q
  exact Go.if_gt C X hd ho hp (fun r => Y (q.mp r)) (fun r => N (fun u => r (q.mpr u)))
theorem Go.lif_le (C : Ctx p s m meth c Z a0 ws own nm bytes ml ret) (X : St p l e R s m args below meth c n0 T h cells slots) {x y : Int64} {o : Int} {pc' : Nat} (hd : decode bytes pc = .ok (.ifCond .le o, 3)) (ho : 0 ≤ (pc : Int) + o) (hp : ((pc : Int) + o).toNat = pc') (Y : ¬ y < x → Go p e below s n0 k n Q (T.setTop (mkF m pc' Ls rest))) (N : y < x → Go p e below s n0 k n Q (T.setTop (mkF m (pc + 3) Ls rest))) : Go p e below s n0 k n Q (T.setTop (mkF m pc Ls (.int (lcmpW x y) :: rest))) := by
  have q := lc_gt x y
  rw [← lcW] at q
  exact Go.if_le C X hd ho hp (fun r => Y (fun u => r (q.mpr u))) (fun r => N (q.mp r))
theorem Go.acmp_eq (C : Ctx p s m meth c Z a0 ws own nm bytes ml ret) (X : St p l e R s m args below meth c n0 T h cells slots) {x y : Value} (h1 : x.isRef = true) (h2 : y.isRef = true) {o : Int} {pc' : Nat} (hd : decode bytes pc = .ok (.if_acmp .eq o, 3)) (ho : 0 ≤ (pc : Int) + o) (hp : ((pc : Int) + o).toNat = pc') (Y : x = y → Go p e below s n0 k n Q (T.setTop (mkF m pc' Ls rest))) (N : ¬ x = y → Go p e below s n0 k n Q (T.setTop (mkF m (pc + 3) Ls rest))) : Go p e below s n0 k n Q (T.setTop (mkF m pc Ls (y :: x :: rest))) := by
  obtain ⟨-, -, _, -, X⟩ := X
  by_cases q : x = y
  · exact Go.st (fun _ => Jvm.RoadKit.acmp (g := mkF m pc Ls (y :: x :: rest)) X C.hx rfl h1 h2 (same := true) rfl (hb C.hby hd) rfl (decide_eq_true q) ho (by rw [← hp]; rfl)) (Y q)
  · exact Go.st (fun _ => Jvm.RoadKit.acmp (g := mkF m pc Ls (y :: x :: rest)) X C.hx rfl h1 h2 (same := false) rfl (hb C.hby hd) rfl (decide_eq_false q) ho (by rfl)) (N q)
theorem Go.acmp_ne (C : Ctx p s m meth c Z a0 ws own nm bytes ml ret) (X : St p l e R s m args below meth c n0 T h cells slots) {x y : Value} (h1 : x.isRef = true) (h2 : y.isRef = true) {o : Int} {pc' : Nat} (hd : decode bytes pc = .ok (.if_acmp .ne o, 3)) (ho : 0 ≤ (pc : Int) + o) (hp : ((pc : Int) + o).toNat = pc') (Y : ¬ x = y → Go p e below s n0 k n Q (T.setTop (mkF m pc' Ls rest))) (N : x = y → Go p e below s n0 k n Q (T.setTop (mkF m (pc + 3) Ls rest))) : Go p e below s n0 k n Q (T.setTop (mkF m pc Ls (y :: x :: rest))) := by
  obtain ⟨-, -, _, -, X⟩ := X
  by_cases q : x = y
  · exact Go.st (fun _ => Jvm.RoadKit.acmp (g := mkF m pc Ls (y :: x :: rest)) X C.hx rfl h1 h2 (same := true) rfl (hb C.hby hd) rfl (decide_eq_true q) ho (by rfl)) (N q)
  · exact Go.st (fun _ => Jvm.RoadKit.acmp (g := mkF m pc Ls (y :: x :: rest)) X C.hx rfl h1 h2 (same := false) rfl (hb C.hby hd) rfl (decide_eq_false q) ho (by rw [← hp]; rfl)) (Y q)
theorem Go.getF (C : Ctx p s m meth c Z a0 ws own nm bytes ml ret) (X : St p l e R s m args below meth c n0 T h cells slots) {O n1 d : String} {i : Nat} {a : Addr} {v : Value} (w : Jvm.Cond.fieldLink own i O n1 d ∈ ws) (F : Fld Z h a O n1 d v) (hd : decode bytes pc = .ok (.getfield i, 3)) (K : ∀ T', St p l e R s m args below meth c n0 T' h cells slots → Go p e below s n0 k n Q (T'.setTop (mkF m (pc + 3) Ls (v :: rest)))) : Go p e below s n0 k n Q (T.setTop (mkF m pc Ls (.ref a :: rest))) := by
  obtain ⟨e0, hz, locs, N, X⟩ := X
  obtain ⟨T', X', e', st⟩ := Jvm.RoadKit.getF X C.hx C.hZ C.hown (host := "") (Or.inl (C.w w)) Via.refl e0 F (g := mkF m pc Ls (.ref a :: rest)) rfl rfl (hb C.hby hd)
  exact Go.st st (K T' ⟨e', hz, locs, N, X'⟩)
theorem Go.getS (C : Ctx p s m meth c Z a0 ws own nm bytes ml ret) (X : St p l e R s m args below meth c n0 T h cells slots) {O n1 d : String} {i : Nat} {v : Value} (w : Jvm.Cond.fieldLink own i O n1 d ∈ ws) (F : Sta Z h O n1 d v) (hd : decode bytes pc = .ok (.getstatic i, 3)) (K : ∀ T', St p l e R s m args below meth c n0 T' h cells slots → Go p e below s n0 k n Q (T'.setTop (mkF m (pc + 3) Ls (v :: stk)))) : Go p e below s n0 k n Q (T.setTop (mkF m pc Ls stk)) := by
  obtain ⟨e0, hz, locs, N, X⟩ := X
  obtain ⟨T', X', e', st⟩ := Jvm.RoadKit.getS2 X C.hx C.hZ C.hown (host := "") (Or.inl (C.w w)) Via.refl e0 F (g := mkF m pc Ls stk) rfl (hb C.hby hd)
  exact Go.st st (K T' ⟨e', hz, locs, N, X'⟩)
theorem Go.putF (C : Ctx p s m meth c Z a0 ws own nm bytes ml ret) (X : St p l e R s m args below meth c n0 T h cells slots) {O n1 d C1 : String} {i kk : Nat} {ty : FieldType} {a : Addr} {v old : Value} (w : Jvm.Cond.fieldLink own i O n1 d ∈ ws) (F : Fld Z h a O n1 d old) (E : Exa Z h a C1) (L : Jvm.Cond.lays C1 O n1 d ∈ ws ∨ (Jvm.Cond.laysFinal C1 O n1 d ∈ ws ∧ own = O ∧ nm = "<init>")) (wi : Jvm.Cond.instantiable C1 kk ∈ ws)
    (hty : parseFieldDescriptor d = some ty) (hn : narrow ty v = v) (hf : fits ty v = true) (ha : n0 ≤ a) (hd : decode bytes pc = .ok (.putfield i, 3)) (K : ∀ T' h', St p l e R s m args below meth c n0 T' h' cells slots → Wr h h' a (Jvm.RoadKit.slotOf Z O n1 d) v → Fld Z h' a O n1 d v → Go p e below s n0 k n Q (T'.setTop (mkF m (pc + 3) Ls rest))) : Go p e below s n0 k n Q (T.setTop (mkF m pc Ls (v :: .ref a :: rest))) := by
  obtain ⟨e0, hz, locs, N, X⟩ := X
  obtain ⟨T', h', X', e', W, st⟩ := Jvm.RoadKit.putF X C.hx C.hZ C.hown (host := "") (Or.inl (C.w w)) Via.refl e0 F E (L.imp (fun q => C.w q) (fun q => ⟨C.w q.1, q.2.1, C.hnm.trans q.2.2⟩)) (C.w wi) hty hn hf (g := mkF m pc Ls (v :: .ref a :: rest)) rfl rfl (hb C.hby hd)
  exact Go.st st (K T' h' ⟨e', hz, _, Fr.snoc X' N ha, X'⟩ W (F.same W))
theorem Go.newO (C : Ctx p s m meth c Z a0 ws own nm bytes ml ret) (X : St p l e R s m args below meth c n0 T h cells slots) {C1 : String} {i kk : Nat} (w : Jvm.Cond.classLink own i C1 ∈ ws) (wi : Jvm.Cond.instantiable C1 kk ∈ ws) (wz : Jvm.Cond.initialized C1 ∈ ws) (hd : decode bytes pc = .ok (.new i, 3)) (hc : cells + 1 ≤ R.cells) (hl : slots + kk ≤ R.slots)
    (K : ∀ T' h' b, h.size = b → n0 ≤ b → St p l e R s m args below meth c n0 T' h' (cells + 1) (slots + kk) → Ext h h' → Exa Z h' b C1 → (∀ {O n1 d : String} {ty : FieldType}, (Jvm.Cond.lays C1 O n1 d ∈ ws ∨ Jvm.Cond.laysFinal C1 O n1 d ∈ ws) → parseFieldDescriptor d = some ty → Fld Z h' b O n1 d (defaultValue ty)) → Go p e below s n0 k n Q (T'.setTop (mkF m (pc + 3) Ls (.ref b :: stk)))) : Go p e below s n0 k n Q (T.setTop (mkF m pc Ls stk)) := by
  have hs := X.size
  obtain ⟨e0, hz, locs, N, X⟩ := X
  obtain ⟨T', h', X', e', E, E1, D, -, st⟩ := Jvm.RoadKit.newO X C.hx C.hZ C.hown (C.w w) (C.w wi) (C.w wz) e0 (g := mkF m pc Ls stk) rfl (hb C.hby hd) hc hl
  exact Go.st st (K T' h' _ rfl hs ⟨e', hz, _, N, X'⟩ E E1 (fun q r => D (q.imp (fun q => C.w q) (fun q => C.w q)) r))
theorem AR.of {cA : ClassId} {ty : FieldType} {z : Int32} {a : Addr} (F : Arr Z h a (newA cA ty z) ty) (q : ¬ z < 0) : AR Z h a ty (List.replicate z.toNatClampNeg (defaultValue ty)) :=
  ⟨_, F, by simp [newA], by rw [List.length_replicate]; exact (back32 q).2⟩
theorem Go.newP (C : Ctx p s m meth c Z a0 ws own nm bytes ml ret) (X : St p l e R s m args below meth c n0 T h cells slots) {aty : ArrayType} {z : Int32} {cap : Nat} (w : Jvm.Cond.arrayClass (newarray.typeOf aty) ∈ ws) (hd : decode bytes pc = .ok (.newarray aty, 2)) (hn : ¬ z < 0) (hcap : z.toNatClampNeg ≤ cap) (hb8 : cap * 8 ≤ 536870912) (hc : cells + 1 ≤ R.cells) (hl : slots + cap ≤ R.slots)
    (K : ∀ T' h' b, h.size = b → n0 ≤ b → St p l e R s m args below meth c n0 T' h' (cells + 1) (slots + cap) → Ext h h' → AR Z h' b (newarray.typeOf aty) (List.replicate z.toNatClampNeg (defaultValue (newarray.typeOf aty))) → Go p e below s n0 k n Q (T'.setTop (mkF m (pc + 2) Ls (.ref b :: rest)))) : Go p e below s n0 k n Q (T.setTop (mkF m pc Ls (.int z :: rest))) := by
  have hs := X.size
  obtain ⟨e0, hz, locs, N, X⟩ := X
  obtain ⟨T', h', cA, X', e', E, F, st⟩ := Jvm.RoadKit.newP X C.hx C.hZ (C.w w) e0 (g := mkF m pc Ls (.int z :: rest)) rfl (hb C.hby hd) rfl hn hcap hb8 hc hl
  exact Go.st st (K T' h' _ rfl hs ⟨e', hz, _, N, X'⟩ E (AR.of F hn))
theorem AR.lt {a : Addr} {ty : FieldType} {vs : List Value} (F : AR Z h a ty vs) : a < h.size := by obtain ⟨c, A, -⟩ := F; exact A.lt
theorem AR.ext {a : Addr} {ty : FieldType} {vs : List Value} (F : AR Z h a ty vs) (E : Ext h h') : AR Z h' a ty vs := by obtain ⟨c, A, r⟩ := F; exact ⟨c, A.ext E, r⟩
theorem AR.other {a b : Addr} {ty : FieldType} {vs : List Value} {sl : Nat} {v : Value} (F : AR Z h b ty vs) (W : Wr h h' a sl v) (q : b ≠ a) : AR Z h' b ty vs := by obtain ⟨c, A, r⟩ := F; exact ⟨c, A.other W q, r⟩
theorem AR.keep {a : Addr} {ty : FieldType} {vs : List Value} {us : List Addr} (F : AR Z h a ty vs) (K : Keep h h' us) (q : a ∉ us) : AR Z h' a ty vs := by obtain ⟨c, A, r⟩ := F; exact ⟨c, ⟨K.2.1 a c A.1 q, A.2⟩, r⟩
theorem AR.same {a : Addr} {ty : FieldType} {vs : List Value} {i : Nat} {v : Value} (F : AR Z h a ty vs) (W : Wr h h' a i v) : AR Z h' a ty (vs.set i v) := by
  obtain ⟨c, A, r, q⟩ := F
  refine ⟨_, A.same W, ?_, by rw [List.length_set]; exact q⟩
  simp [Cell.setSlot, r]
theorem AR.in {a : Addr} {ty : FieldType} {vs : List Value} {j : Int32} {c : Cell} (r : c.slots = vs.toArray) (hj : ¬ j < 0) (hl : j.toNatClampNeg < vs.length) : ¬ (j < 0 ∨ c.slots.size ≤ j.toNatClampNeg) := by
  rw [r]; simp; exact ⟨Int32.not_lt.mp hj, hl⟩
theorem AR.ne {a b : Addr} {ty : FieldType} {vs : List Value} (F : AR Z h a ty vs) (g : h.size = b) : a ≠ b := by subst g; exact Nat.ne_of_lt F.lt
theorem ltOf {vs : List Value} {i : Nat} {v : Value} (q : vs[i]? = some v) : i < vs.length := (List.getElem?_eq_some_iff.mp q).1
theorem Go.iaload (C : Ctx p s m meth c Z a0 ws own nm bytes ml ret) (X : St p l e R s m args below meth c n0 T h cells slots) {a : Addr} {vs : List Value} {j : Int32} {x : Int32} (F : AR Z h a .int vs) (hj : ¬ j < 0) (hv : vs[j.toNatClampNeg]? = some (.int x)) (hd : decode bytes pc = .ok (.iaload, 1)) (K : Go p e below s n0 k n Q (T.setTop (mkF m (pc + 1) Ls (.int x :: rest)))) : Go p e below s n0 k n Q (T.setTop (mkF m pc Ls (.int j :: .ref a :: rest))) := by
  obtain ⟨e0, hz, locs, N, X⟩ := X
  obtain ⟨cl, A, r, -⟩ := F
  exact Go.st (X.iaload C.hx (j := j) (v := .int x) (by rw [e0]; exact A.1) (State.isArrayOf_alike C.hZ.alike A.2.1) A.2.2 (AR.in (a := a) (ty := .int) r hj (ltOf hv)) (by rw [r]; simpa using hv) (g := mkF m pc Ls (.int j :: .ref a :: rest)) rfl rfl (hb C.hby hd)) K
theorem Go.laload (C : Ctx p s m meth c Z a0 ws own nm bytes ml ret) (X : St p l e R s m args below meth c n0 T h cells slots) {a : Addr} {vs : List Value} {j : Int32} {x : Int64} (F : AR Z h a .long vs) (hj : ¬ j < 0) (hv : vs[j.toNatClampNeg]? = some (.long x)) (hd : decode bytes pc = .ok (.laload, 1)) (K : Go p e below s n0 k n Q (T.setTop (mkF m (pc + 1) Ls (.long x :: rest)))) : Go p e below s n0 k n Q (T.setTop (mkF m pc Ls (.int j :: .ref a :: rest))) := by
  obtain ⟨e0, hz, locs, N, X⟩ := X
  obtain ⟨cl, A, r, -⟩ := F
  exact Go.st (X.laload C.hx (j := j) (v := .long x) (by rw [e0]; exact A.1) (State.isArrayOf_alike C.hZ.alike A.2.1) A.2.2 (AR.in (a := a) (ty := .long) r hj (ltOf hv)) (by rw [r]; simpa using hv) (g := mkF m pc Ls (.int j :: .ref a :: rest)) rfl rfl (hb C.hby hd)) K
theorem Go.baload (C : Ctx p s m meth c Z a0 ws own nm bytes ml ret) (X : St p l e R s m args below meth c n0 T h cells slots) {a : Addr} {vs : List Value} {j : Int32} {x : Int32} (F : AR Z h a .byte vs) (hj : ¬ j < 0) (hv : vs[j.toNatClampNeg]? = some (.int x)) (hd : decode bytes pc = .ok (.baload, 1)) (K : Go p e below s n0 k n Q (T.setTop (mkF m (pc + 1) Ls (.int x :: rest)))) : Go p e below s n0 k n Q (T.setTop (mkF m pc Ls (.int j :: .ref a :: rest))) := by
  obtain ⟨e0, hz, locs, N, X⟩ := X
  obtain ⟨cl, A, r, -⟩ := F
  exact Go.st (X.baloadBytes C.hx (j := j) (v := .int x) (by rw [e0]; exact A.1) (State.isArrayOf_alike C.hZ.alike A.2.1) A.2.2 (AR.in (a := a) (ty := .byte) r hj (ltOf hv)) (by rw [r]; simpa using hv) (g := mkF m pc Ls (.int j :: .ref a :: rest)) rfl rfl (hb C.hby hd)) K
theorem Go.aaload (C : Ctx p s m meth c Z a0 ws own nm bytes ml ret) (X : St p l e R s m args below meth c n0 T h cells slots) {a : Addr} {ty : FieldType} {vs : List Value} {j : Int32} {v : Value} (F : AR Z h a ty vs) (hty : ty.isReference = true) (hj : ¬ j < 0) (hv : vs[j.toNatClampNeg]? = some v) (hd : decode bytes pc = .ok (.aaload, 1)) (K : Go p e below s n0 k n Q (T.setTop (mkF m (pc + 1) Ls (v :: rest)))) : Go p e below s n0 k n Q (T.setTop (mkF m pc Ls (.int j :: .ref a :: rest))) := by
  obtain ⟨e0, hz, locs, N, X⟩ := X
  obtain ⟨cl, A, r, -⟩ := F
  exact Go.st (X.aaload C.hx (j := j) (v := v) (by rw [e0]; exact A.1) (State.isArrayOf_alike C.hZ.alike A.2.1) hty A.2.2 (AR.in (a := a) (ty := ty) r hj (ltOf hv)) (by rw [r]; simpa using hv) (g := mkF m pc Ls (.int j :: .ref a :: rest)) rfl rfl (hb C.hby hd)) K
theorem Go.alen (C : Ctx p s m meth c Z a0 ws own nm bytes ml ret) (X : St p l e R s m args below meth c n0 T h cells slots) {a : Addr} {ty : FieldType} {vs : List Value} {z : Int32} (F : AR Z h a ty vs) (hz : vs.length.toInt32 = z) (hd : decode bytes pc = .ok (.arraylength, 1)) (K : Go p e below s n0 k n Q (T.setTop (mkF m (pc + 1) Ls (.int z :: rest)))) : Go p e below s n0 k n Q (T.setTop (mkF m pc Ls (.ref a :: rest))) := by
  subst hz
  obtain ⟨e0, hz, locs, N, X⟩ := X
  obtain ⟨cl, A, r, -⟩ := F
  refine Go.st (X.arraylength C.hx (by rw [e0]; exact A.1) (State.isArrayOf_alike C.hZ.alike A.2.1) (g := mkF m pc Ls (.ref a :: rest)) rfl rfl (hb C.hby hd)) ?_
  rw [r]
  simpa using K
theorem Go.iastore (C : Ctx p s m meth c Z a0 ws own nm bytes ml ret) (X : St p l e R s m args below meth c n0 T h cells slots) {a : Addr} {vs : List Value} {j : Int32} {x : Int32} (F : AR Z h a .int vs) (hj : ¬ j < 0) (hl : j.toNatClampNeg < vs.length) (ha : n0 ≤ a) (hd : decode bytes pc = .ok (.iastore, 1)) (K : ∀ T' h', St p l e R s m args below meth c n0 T' h' cells slots → Wr h h' a j.toNatClampNeg (.int x) → AR Z h' a .int (vs.set j.toNatClampNeg (.int x)) → Go p e below s n0 k n Q (T'.setTop (mkF m (pc + 1) Ls rest))) : Go p e below s n0 k n Q (T.setTop (mkF m pc Ls (.int x :: .int j :: .ref a :: rest))) := by
  obtain ⟨e0, hz, locs, N, X⟩ := X
  have F0 := F
  obtain ⟨cl, A, r, -⟩ := F
  obtain ⟨T', h', X', e', W, st⟩ := Jvm.RoadKit.stI X C.hx C.hZ e0 A (j := j) (x := x) (AR.in (a := a) (ty := .int) r hj hl) (g := mkF m pc Ls (.int x :: .int j :: .ref a :: rest)) rfl rfl (hb C.hby hd)
  exact Go.st st (K T' h' ⟨e', hz, _, Fr.snoc X' N ha, X'⟩ W (F0.same W))
theorem Go.lastore (C : Ctx p s m meth c Z a0 ws own nm bytes ml ret) (X : St p l e R s m args below meth c n0 T h cells slots) {a : Addr} {vs : List Value} {j : Int32} {x : Int64} (F : AR Z h a .long vs) (hj : ¬ j < 0) (hl : j.toNatClampNeg < vs.length) (ha : n0 ≤ a) (hd : decode bytes pc = .ok (.lastore, 1)) (K : ∀ T' h', St p l e R s m args below meth c n0 T' h' cells slots → Wr h h' a j.toNatClampNeg (.long x) → AR Z h' a .long (vs.set j.toNatClampNeg (.long x)) → Go p e below s n0 k n Q (T'.setTop (mkF m (pc + 1) Ls rest))) : Go p e below s n0 k n Q (T.setTop (mkF m pc Ls (.long x :: .int j :: .ref a :: rest))) := by
  obtain ⟨e0, hz, locs, N, X⟩ := X
  have F0 := F
  obtain ⟨cl, A, r, -⟩ := F
  obtain ⟨T', h', X', e', W, st⟩ := Jvm.RoadKit.stJ X C.hx C.hZ e0 A (j := j) (x := x) (AR.in (a := a) (ty := .long) r hj hl) (g := mkF m pc Ls (.long x :: .int j :: .ref a :: rest)) rfl rfl (hb C.hby hd)
  exact Go.st st (K T' h' ⟨e', hz, _, Fr.snoc X' N ha, X'⟩ W (F0.same W))
theorem Go.bastore (C : Ctx p s m meth c Z a0 ws own nm bytes ml ret) (X : St p l e R s m args below meth c n0 T h cells slots) {a : Addr} {vs : List Value} {j : Int32} {x : Int32} (F : AR Z h a .byte vs) (hj : ¬ j < 0) (hl : j.toNatClampNeg < vs.length) (ha : n0 ≤ a) (hd : decode bytes pc = .ok (.bastore, 1)) (K : ∀ T' h', St p l e R s m args below meth c n0 T' h' cells slots → Wr h h' a j.toNatClampNeg (.int (nar .byte x)) → AR Z h' a .byte (vs.set j.toNatClampNeg (.int (nar .byte x))) → Go p e below s n0 k n Q (T'.setTop (mkF m (pc + 1) Ls rest))) : Go p e below s n0 k n Q (T.setTop (mkF m pc Ls (.int x :: .int j :: .ref a :: rest))) := by
  obtain ⟨e0, hz, locs, N, X⟩ := X
  have F0 := F
  obtain ⟨cl, A, r, -⟩ := F
  obtain ⟨T', h', X', e', W, st⟩ := Jvm.RoadKit.stB X C.hx C.hZ e0 A (j := j) (x := x) (AR.in (a := a) (ty := .byte) r hj hl) (g := mkF m pc Ls (.int x :: .int j :: .ref a :: rest)) rfl rfl (hb C.hby hd)
  exact Go.st st (K T' h' ⟨e', hz, _, Fr.snoc X' N ha, X'⟩ W (F0.same W))
theorem Con.back {y : MethodName} {rm : Room} {as : Array Value} {W : Nat} (H : Con l Z y bytes ml ret [] rm n0 as h Q) (hZ : Z.Warmed39 s.vm) (wc : (Jvm.Cond.code y bytes ml ret).before a0 Z = true) (wz : (Jvm.Cond.initialized y.cls).before a0 Z = true) (hf : rm.frames + 1 ≤ R.frames) (hl : W + (ml + 11) + rm.locals ≤ R.locals) :
    Back l R p e below s args y 3 W (fun A a => a = as ∧ A.U.heap = h ∧ A.cells + rm.cells ≤ R.cells ∧ A.slots + rm.slots ≤ R.slots)
      (fun A _ v B => ∃ L, (Q v B.U.heap ∧ Fr n0 L) ∧ B.locs = A.locs ++ L ∧ B.cells = A.cells + rm.cells ∧ B.slots = A.slots + rm.slots) :=
  backOf (Q := fun v h L => Q v h ∧ Fr n0 L) H hZ wc wz hf hl
theorem Go.callS (C : Ctx p s m meth c Z a0 ws own nm bytes ml ret) (X : St p l e R s m args below meth c n0 T h cells slots) {y : MethodName} {bytes' : ByteArray} {ml' : Nat} {ret' : Option FieldType} {rm : Room} {i W : Nat} {argsL : List Value} {Q' : Option Value → Heap → Prop} (w1 : Jvm.Cond.methodLink own i y ∈ ws) (w2 : Jvm.Cond.static y ∈ ws) (w3 : Jvm.Cond.initialized y.cls ∈ ws) (w4 : Jvm.Cond.code y bytes' ml' ret' ∈ ws) (hy : y.cls ≠ "java/lang/invoke/MethodHandle" ∧ y.cls ≠ "java/lang/invoke/VarHandle")
    (H : Con l Z y bytes' ml' ret' [] rm n0 argsL.toArray h Q') (hfr : rm.frames + 1 ≤ R.frames) (hlo : W + (ml' + 11) + rm.locals ≤ R.locals) (hsz : Ls.size = ml) (hlen : ∀ sig, parseMethodDescriptor y.desc = some sig → argsL.length = sig.parameters.length) (hW : (rest.map fun v => v.category).sum ≤ W) (hstk : stk = argsL.reverse ++ rest) (hd : decode bytes pc = .ok (.invokestatic i, 3)) (hce : cells + rm.cells ≤ R.cells) (hsl : slots + rm.slots ≤ R.slots) (K : ∀ T' h' v, St p l e R s m args below meth c n0 T' h' (cells + rm.cells) (slots + rm.slots) → Q' v h' → Go p e below s n0 k n Q (T'.setTop (mkF m (pc + 3) Ls (v.toList ++ rest)))) : Go p e below s n0 k n Q (T.setTop (mkF m pc Ls stk)) := by
  obtain ⟨e0, hz, locs, N, X⟩ := X
  obtain ⟨v, _, ⟨T', L', k', n'⟩, -, X', ⟨L, hQ, l1, y1, z1⟩, st⟩ := Jvm.LawKit.callS X C.hx (y := y) C.hown (mvT C.hZ (C.w w1)) (mvT C.hZ (C.w w2)) (mvT C.hZ (C.w w3)) (mvT C.hZ (C.w w4)) hy (H.back (W := W) C.hZ (C.w w4) (C.w w3) hfr hlo) (g := mkF m pc Ls stk) rfl (hsz.trans C.hml.symm) (argsL := argsL) (rest := rest) hlen hstk (by show 2 * 0 + _ ≤ _; omega) (hb C.hby hd) (fun _ _ => ⟨rfl, e0, hce, hsl⟩)
  dsimp only [Pt.U, Pt.locs, Pt.cells, Pt.slots] at X' l1 y1 z1 st hQ
  subst l1 y1 z1
  exact Go.st st (K T' _ v ⟨rfl, hz, _, N.app hQ.2, X'⟩ hQ.1)
theorem Go.callInit (C : Ctx p s m meth c Z a0 ws own nm bytes ml ret) (X : St p l e R s m args below meth c n0 T h cells slots) {y : MethodName} {bytes' : ByteArray} {ml' : Nat} {rm : Room} {i W : Nat} {argsL : List Value} {Q' : Option Value → Heap → Prop} {a : Addr} (hy1 : y.name = "<init>") (w1 : Jvm.Cond.methodLink own i y ∈ ws) (w2 : Jvm.Cond.instanceMethod y ∈ ws) (w3 : Jvm.Cond.initialized y.cls ∈ ws) (w4 : Jvm.Cond.code y bytes' ml' none ∈ ws) (hy : y.cls ≠ "java/lang/invoke/MethodHandle" ∧ y.cls ≠ "java/lang/invoke/VarHandle")
    (H : Con l Z y bytes' ml' none [] rm n0 (.ref a :: argsL).toArray h Q') (hfr : rm.frames + 1 ≤ R.frames) (hlo : W + (ml' + 11) + rm.locals ≤ R.locals) (hsz : Ls.size = ml) (hlen : ∀ sig, parseMethodDescriptor y.desc = some sig → argsL.length = sig.parameters.length) (hW : (rest.map fun v => v.category).sum ≤ W) (hstk : stk = argsL.reverse ++ .ref a :: rest) (hd : decode bytes pc = .ok (.invokespecial i, 3)) (hce : cells + rm.cells ≤ R.cells) (hsl : slots + rm.slots ≤ R.slots) (K : ∀ T' h' v, St p l e R s m args below meth c n0 T' h' (cells + rm.cells) (slots + rm.slots) → Q' v h' → Go p e below s n0 k n Q (T'.setTop (mkF m (pc + 3) Ls (v.toList ++ rest)))) : Go p e below s n0 k n Q (T.setTop (mkF m pc Ls stk)) := by
  obtain ⟨e0, hz, locs, N, X⟩ := X
  obtain ⟨v, _, ⟨T', L', k', n'⟩, -, X', ⟨L, hQ, l1, y1, z1⟩, st⟩ := X.specialBack C.hx (y := y) hy1 C.hown (mvT C.hZ (C.w w1)) (mvT C.hZ (C.w w2)) (mvT C.hZ (C.w w4)) hy (H.back (W := W) C.hZ (C.w w4) (C.w w3) hfr hlo) (g := mkF m pc Ls stk) rfl (hsz.trans C.hml.symm) (Steps.refl _) (a := a) (argsL := argsL) (rest := rest) hlen hstk (by show 2 * 0 + _ ≤ _; omega) (hb C.hby hd) (fun _ _ => ⟨rfl, e0, hce, hsl⟩)
  dsimp only [Pt.U, Pt.locs, Pt.cells, Pt.slots] at X' l1 y1 z1 st hQ
  subst l1 y1 z1
  exact Go.tr st (K T' _ v ⟨rfl, hz, _, N.app hQ.2, X'⟩ hQ.1)
theorem Go.callV (C : Ctx p s m meth c Z a0 ws own nm bytes ml ret) (X : St p l e R s m args below meth c n0 T h cells slots) {y : MethodName} {bytes' : ByteArray} {ml' : Nat} {ret' : Option FieldType} {rm : Room} {i W : Nat} {argsL : List Value} {Q' : Option Value → Heap → Prop} {a : Addr} {C1 : String} (E : Exa Z h a C1) (w1 : Jvm.Cond.methodLink own i y ∈ ws) (w2 : Jvm.Cond.declares y ∈ ws) (w5 : Jvm.Cond.selects C1 y y ∈ ws) (w6 : Jvm.Cond.instanceMethod y ∈ ws) (w3 : Jvm.Cond.initialized y.cls ∈ ws) (w4 : Jvm.Cond.code y bytes' ml' ret' ∈ ws) (hy : y.cls ≠ "java/lang/invoke/MethodHandle" ∧ y.cls ≠ "java/lang/invoke/VarHandle") (hC1 : C1 = y.cls)
    (H : Con l Z y bytes' ml' ret' [] rm n0 (.ref a :: argsL).toArray h Q') (hfr : rm.frames + 1 ≤ R.frames) (hlo : W + (ml' + 11) + rm.locals ≤ R.locals) (hsz : Ls.size = ml) (hlen : ∀ sig, parseMethodDescriptor y.desc = some sig → argsL.length = sig.parameters.length) (hW : (rest.map fun v => v.category).sum ≤ W) (hstk : stk = argsL.reverse ++ .ref a :: rest) (hd : decode bytes pc = .ok (.invokevirtual i, 3)) (hce : cells + rm.cells ≤ R.cells) (hsl : slots + rm.slots ≤ R.slots) (K : ∀ T' h' v, St p l e R s m args below meth c n0 T' h' (cells + rm.cells) (slots + rm.slots) → Q' v h' → Go p e below s n0 k n Q (T'.setTop (mkF m (pc + 3) Ls (v.toList ++ rest)))) : Go p e below s n0 k n Q (T.setTop (mkF m pc Ls stk)) := by
  subst hC1
  obtain ⟨e0, hz, locs, N, X⟩ := X
  obtain ⟨cq, kq, qa, qb, qc⟩ := isOf (T := T) C.hZ e0 E
  obtain ⟨v, _, ⟨T', L', k', n'⟩, -, X', ⟨L, hQ, l1, y1, z1⟩, st⟩ := X.virtualBack C.hx (y := y) (z := y) C.hown (mvT C.hZ (C.w w1)) (mvT C.hZ (C.w w2)) (notFace_of_selects (args := #[]) (mvT C.hZ (C.w w5))) (mvT C.hZ (C.w w5)) (mvT C.hZ (C.w w6)) hy (H.back (W := W) C.hZ (C.w w4) (C.w w3) hfr hlo) qa qc (g := mkF m pc Ls stk) rfl (hsz.trans C.hml.symm) (Steps.refl _) (argsL := argsL) (rest := rest) hlen hstk (by show 2 * 0 + _ ≤ _; omega) (hb C.hby hd) (fun _ _ => ⟨rfl, e0, hce, hsl⟩)
  dsimp only [Pt.U, Pt.locs, Pt.cells, Pt.slots] at X' l1 y1 z1 st hQ
  subst l1 y1 z1
  exact Go.tr st (K T' _ v ⟨rfl, hz, _, N.app hQ.2, X'⟩ hQ.1)
theorem Go.initO (C : Ctx p s m meth c Z a0 ws own nm bytes ml ret) (X : St p l e R s m args below meth c n0 T h cells slots) {i W : Nat} {a : Addr} (w1 : Jvm.Cond.methodLink own i Lib.objectInit ∈ ws) (w2 : Jvm.Cond.instanceMethod Lib.objectInit ∈ ws) (w3 : Jvm.Cond.code Lib.objectInit ⟨#[0xb1]⟩ 1 none ∈ ws) (hsz : Ls.size = ml) (hd : decode bytes pc = .ok (.invokespecial i, 3)) (hf : 1 ≤ R.frames) (hW : (rest.map fun v => v.category).sum ≤ W) (hl : W + 12 ≤ R.locals) (K : ∀ T', St p l e R s m args below meth c n0 T' h cells slots → Go p e below s n0 k n Q (T'.setTop (mkF m (pc + 3) Ls rest))) : Go p e below s n0 k n Q (T.setTop (mkF m pc Ls (.ref a :: rest))) := by
  obtain ⟨e0, hz, locs, N, X⟩ := X
  obtain ⟨T', X', e', st⟩ := Jvm.RoadKit.initO X C.hx C.hZ C.hown (C.w w1) (C.w w2) (C.w w3) e0 (g := mkF m pc Ls (.ref a :: rest)) rfl (hsz.trans C.hml.symm) rfl (hb C.hby hd) hf (W := W) (by show 2 * 0 + _ ≤ _; omega) hl
  exact Go.st st (K T' ⟨e', hz, locs, N, X'⟩)
theorem Go.ldcI (C : Ctx p s m meth c Z a0 ws own nm bytes ml ret) (X : St p l e R s m args below meth c n0 T h cells slots) {i : Nat} {x : Int32} (w : Jvm.Cond.constant own i x ∈ ws) (hd : decode bytes pc = .ok (.ldc i, 2)) (K : Go p e below s n0 k n Q (T.setTop (mkF m (pc + 2) Ls (.int x :: stk)))) : Go p e below s n0 k n Q (T.setTop (mkF m pc Ls stk)) := by
  obtain ⟨e0, hz, locs, N, X⟩ := X
  exact Go.st (fun _ => X.ldcI (g := mkF m pc Ls stk) C.hx C.hown (mvT C.hZ (C.w w)) rfl (hb C.hby hd)) K
theorem Go.ldcW (C : Ctx p s m meth c Z a0 ws own nm bytes ml ret) (X : St p l e R s m args below meth c n0 T h cells slots) {i : Nat} {x : Int32} (w : Jvm.Cond.constant own i x ∈ ws) (hd : decode bytes pc = .ok (.ldc_w i, 3)) (K : Go p e below s n0 k n Q (T.setTop (mkF m (pc + 3) Ls (.int x :: stk)))) : Go p e below s n0 k n Q (T.setTop (mkF m pc Ls stk)) := by
  obtain ⟨e0, hz, locs, N, X⟩ := X
  exact Go.st (fun _ => X.ldcWI (g := mkF m pc Ls stk) C.hx C.hown (mvT C.hZ (C.w w)) rfl (hb C.hby hd)) K
theorem Go.ldcJ (C : Ctx p s m meth c Z a0 ws own nm bytes ml ret) (X : St p l e R s m args below meth c n0 T h cells slots) {i : Nat} {x : Int64} (w : Jvm.Cond.constantLong own i x ∈ ws) (hd : decode bytes pc = .ok (.ldc2_w i, 3)) (K : Go p e below s n0 k n Q (T.setTop (mkF m (pc + 3) Ls (.long x :: stk)))) : Go p e below s n0 k n Q (T.setTop (mkF m pc Ls stk)) := by
  obtain ⟨e0, hz, locs, N, X⟩ := X
  exact Go.st (fun _ => X.ldc2J (g := mkF m pc Ls stk) C.hx C.hown (mvT C.hZ (C.w w)) rfl (hb C.hby hd)) K
theorem Go.irem (C : Ctx p s m meth c Z a0 ws own nm bytes ml ret) (X : St p l e R s m args below meth c n0 T h cells slots) {x y : Int32} (hy : y ≠ 0) (hd : decode bytes pc = .ok (.irem, 1)) (K : Go p e below s n0 k n Q (T.setTop (mkF m (pc + 1) Ls (.int (x % y) :: rest)))) : Go p e below s n0 k n Q (T.setTop (mkF m pc Ls (.int y :: .int x :: rest))) := by
  obtain ⟨e0, hz, locs, N, X⟩ := X
  exact Go.st (fun _ => Jvm.RoadKit.iremM (g := mkF m pc Ls (.int y :: .int x :: rest)) X C.hx rfl (hb C.hby hd) rfl hy) K
theorem Go.lrem (C : Ctx p s m meth c Z a0 ws own nm bytes ml ret) (X : St p l e R s m args below meth c n0 T h cells slots) {x y : Int64} (hy : y ≠ 0) (hd : decode bytes pc = .ok (.lrem, 1)) (K : Go p e below s n0 k n Q (T.setTop (mkF m (pc + 1) Ls (.long (x % y) :: rest)))) : Go p e below s n0 k n Q (T.setTop (mkF m pc Ls (.long y :: .long x :: rest))) := by
  refine Go.st (fun _ => XS.lrem (g := mkF m pc Ls (.long y :: .long x :: rest)) X.here C.hx rfl (hb C.hby hd) rfl hy) ?_
  rw [lrem_mod]
  exact K
theorem Go.dupX2 (C : Ctx p s m meth c Z a0 ws own nm bytes ml ret) (X : St p l e R s m args below meth c n0 T h cells slots) {x y z : Value} (h1 : x.category = 1) (h2 : y.category = 1) (h3 : z.category = 1) (hd : decode bytes pc = .ok (.dup_x2, 1)) (K : Go p e below s n0 k n Q (T.setTop (mkF m (pc + 1) Ls (x :: y :: z :: x :: rest)))) : Go p e below s n0 k n Q (T.setTop (mkF m pc Ls (x :: y :: z :: rest))) := by
  refine Go.st (fun t hr => ?_) K
  have hx := C.hx
  have hd' := hb C.hby hd
  jvm_step X.here [X.here.top, hx, hd', h1, h2, h3]
  exact hr
theorem eqI_v {args : Array Value} {first s : State} {o : Option Outcome} {idx : List Nat} {t : Term} {z : Int32} (q : (Jvm.Cond.eq t (Term.int z)).value args first o s idx = some true) : t.eval args first o idx s = some (.int z) := by
  obtain ⟨x, y, ha, hb, k1, k2⟩ := cmp_v (Or.inl q)
  have hy : y = .int z := by
    have r := Term.int_eval (args := args) (first := first) (o := o) (idx := idx) (s := s) z
    rw [r] at hb; exact (Option.some.inj hb).symm
  subst hy
  obtain ⟨u, rfl⟩ := k2
  rw [ha, gotT (Cond.eq_ints ha hb) q]
theorem fieldNe {args : Array Value} {first s : State} {o : Option Outcome} {idx : List Nat} {t t' : Term} {C f d : String} {a b : Addr} {z z' : Int32} (h1 : t.eval args first o idx s = some (.ref a)) (h2 : t'.eval args first o idx s = some (.ref b)) (q1 : (Jvm.Cond.eq (Term.field t C f d) (Term.int z)).value args first o s idx = some true) (q2 : (Jvm.Cond.eq (Term.field t' C f d) (Term.int z')).value args first o s idx = some true) (hz : z ≠ z') : a ≠ b := by
  intro r; subst r
  have e1 := eqI_v q1; have e2 := eqI_v q2
  rw [fld_at h1] at e1; rw [fld_at h2] at e2
  rw [e1] at e2
  cases e2; exact hz rfl
/-- an array whose elements are known and that may be cloned -/
def AF (Z : State) (h : Heap) (a : Addr) (ty : FieldType) (vs : List Value) : Prop := ∃ c : Cell, Arr Z h a c ty ∧ c.slots = vs.toArray ∧ vs.length < 2 ^ 31 ∧ FitC Z c
theorem AF.ar {a : Addr} {ty : FieldType} {vs : List Value} (F : AF Z h a ty vs) : AR Z h a ty vs := by obtain ⟨c, A, r, q, -⟩ := F; exact ⟨c, A, r, q⟩
theorem Go.clone (C : Ctx p s m meth c Z a0 ws own nm bytes ml ret) (X : St p l e R s m args below meth c n0 T h cells slots) {ad : String} {i W cap : Nat} {a : Addr} {ty : FieldType} {vs : List Value} (w1 : Jvm.Cond.methodLink own i ⟨ad, "clone", "()Ljava/lang/Object;"⟩ ∈ ws) (w2 : Jvm.Cond.sameMethod ad "java/lang/Object" "clone" "()Ljava/lang/Object;" ∈ ws) (w3 : Jvm.Cond.native ⟨"java/lang/Object", "clone", "()Ljava/lang/Object;"⟩ ∈ ws) (w4 : Jvm.Cond.instanceMethod ⟨"java/lang/Object", "clone", "()Ljava/lang/Object;"⟩ ∈ ws)
    (w5 : Jvm.Cond.selects ad ⟨ad, "clone", "()Ljava/lang/Object;"⟩ ⟨"java/lang/Object", "clone", "()Ljava/lang/Object;"⟩ ∈ ws) (w6 : Jvm.Cond.castable ad "java/lang/Cloneable" ∈ ws) (F : AF Z h a ty vs) (E : Exa Z h a ad) (hsz : Ls.size = ml) (hd : decode bytes pc = .ok (.invokevirtual i, 3)) (hf : 1 ≤ R.frames) (hW : (rest.map fun v => v.category).sum ≤ W) (hl : W + 14 ≤ R.locals) (hcap : vs.length ≤ cap) (hc : cells + 1 ≤ R.cells) (hsl : slots + cap ≤ R.slots)
    (K : ∀ T' h' b, h.size = b → n0 ≤ b → St p l e R s m args below meth c n0 T' h' (cells + 1) (slots + cap) → Ext h h' → AR Z h' b ty vs → Exa Z h' b ad → Go p e below s n0 k n Q (T'.setTop (mkF m (pc + 3) Ls (.ref b :: rest)))) : Go p e below s n0 k n Q (T.setTop (mkF m pc Ls (.ref a :: rest))) := by
  have hs := X.size
  obtain ⟨e0, hz, locs, N, X⟩ := X
  obtain ⟨cl, A, r, q, FC⟩ := F
  obtain ⟨T', h', X', e', Ex, A', E', st⟩ := Jvm.RoadKit.cloneA X C.hx C.hZ C.hown (C.w w1) (C.w w2) (C.w w3) (C.w w4) (C.w w5) (C.w w6) e0 A E FC (g := mkF m pc Ls (.ref a :: rest)) rfl (hsz.trans C.hml.symm) rfl (hb C.hby hd) hf (W := W) (cap := cap) (by show 2 * 0 + _ ≤ _; omega) hl (by rw [r]; simpa using hcap) hc hsl
  exact Go.st st (K T' h' _ rfl hs ⟨e', hz, _, N, X'⟩ Ex ⟨_, A', r, q⟩ E')
theorem Go.cast (C : Ctx p s m meth c Z a0 ws own nm bytes ml ret) (X : St p l e R s m args below meth c n0 T h cells slots) {i : Nat} {K1 : String} {a : Addr} (w : Jvm.Cond.classLink own i K1 ∈ ws) (F : Ins Z h a K1 true) (hd : decode bytes pc = .ok (.checkcast i, 3)) (K : ∀ T', St p l e R s m args below meth c n0 T' h cells slots → Go p e below s n0 k n Q (T'.setTop (mkF m (pc + 3) Ls (.ref a :: rest)))) : Go p e below s n0 k n Q (T.setTop (mkF m pc Ls (.ref a :: rest))) := by
  obtain ⟨e0, hz, locs, N, X⟩ := X
  obtain ⟨T', X', e', st⟩ := Jvm.RoadKit.castY X C.hx C.hZ C.hown (C.w w) e0 F (g := mkF m pc Ls (.ref a :: rest)) rfl rfl (hb C.hby hd)
  exact Go.st st (K T' ⟨e', hz, locs, N, X'⟩)
theorem elemRef {args : Array Value} {s : State} {t t' : Term} {a x : Addr} {cl : Cell} {j : Int32} (q : (Jvm.Cond.eq (Term.elem t (Term.int j)) t').value args s none s [] = some true) (ht : t.eval args s none [] s = some (.ref a)) (ht' : t'.eval args s none [] s = some (.ref x)) (hc : s.heap[a]? = some cl) : cl.slots[j.toNatClampNeg]? = some (.ref x) := by
  obtain ⟨u, v, ha, hb, k1, k2⟩ := cmp_v (Or.inl q)
  rw [ht'] at hb
  cases hb
  have e := gotT (eq_R ha ht' k2.2 rfl) q
  subst e
  exact (elem_in ha ht (Term.int_eval j) hc).2
theorem fldI {args : Array Value} {s : State} {t : Term} {a : Addr} {C f d : String} {z : Int32} (q : (Jvm.Cond.eq (Term.field t C f d) (Term.int z)).value args s none s [] = some true) (ht : t.eval args s none [] s = some (.ref a)) : Fld s s.heap a C f d (.int z) := by
  have e := eqI_v q
  rw [fld_at ht] at e
  exact Fld.start e
theorem lenOf' {args : Array Value} {s : State} {t : Term} {a : Addr} {cl : Cell} {ty : FieldType} {z : Int32} (q : (Jvm.Cond.eq (Term.length t) (Term.int z)).value args s none s [] = some true) (ht : t.eval args s none [] s = some (.ref a)) (A : Arr s s.heap a cl ty) : cl.slots.size.toInt32 = z ∧ cl.slots.size < 2 ^ 31 := by
  obtain ⟨b, cell, h1, h2, h3, h4⟩ := Jvm.Lib.length_spec (eqI_v q)
  rw [ht] at h1
  cases h1
  rw [A.fin (Vm.Alike.refl _)] at h2
  cases h2
  exact ⟨(Value.int.inj h4).symm, h3⟩
theorem Go.newPE (C : Ctx p s m meth c Z a0 ws own nm bytes ml ret) (X : St p l e R s m args below meth c n0 T h cells slots) {aty : ArrayType} {z : Int32} {cap : Nat} {ad : String} (w : Jvm.Cond.arrayClass (newarray.typeOf aty) ∈ ws) (had : "[" ++ (newarray.typeOf aty).toString = ad) (hd : decode bytes pc = .ok (.newarray aty, 2)) (hn : ¬ z < 0) (hcap : z.toNatClampNeg ≤ cap) (hb8 : cap * 8 ≤ 536870912) (hc : cells + 1 ≤ R.cells) (hl : slots + cap ≤ R.slots)
    (K : ∀ T' h' b, h.size = b → n0 ≤ b → St p l e R s m args below meth c n0 T' h' (cells + 1) (slots + cap) → Ext h h' → AR Z h' b (newarray.typeOf aty) (List.replicate z.toNatClampNeg (defaultValue (newarray.typeOf aty))) → Exa Z h' b ad → Go p e below s n0 k n Q (T'.setTop (mkF m (pc + 2) Ls (.ref b :: rest)))) : Go p e below s n0 k n Q (T.setTop (mkF m pc Ls (.int z :: rest))) := by
  have hs := X.size
  obtain ⟨e0, hz, locs, N, X⟩ := X
  obtain ⟨T', h', cA, X', e', E, F, EX, st⟩ := Jvm.RoadKit.newPE X C.hx C.hZ (C.w w) e0 (g := mkF m pc Ls (.int z :: rest)) rfl (hb C.hby hd) rfl hn hcap hb8 hc hl had
  exact Go.st st (K T' h' _ rfl hs ⟨e', hz, _, N, X'⟩ E (AR.of F hn) EX)
theorem AF.zero {a : Addr} {N : Nat} (F : AR Z h a .byte (List.replicate N (.int (0 : Int32)))) : AF Z h a .byte (List.replicate N (.int (0 : Int32))) := by
  obtain ⟨c, A, r, q⟩ := F
  refine ⟨c, A, r, q, fitC_of A fun i hi v hv => ?_⟩
  rw [r, List.getElem?_toArray, List.getElem?_replicate] at hv
  split at hv
  · cases hv; rfl
  · cases hv
theorem AR.arv0 {a : Addr} {N : Nat} (F : AR Z h a .byte (List.replicate N (.int (0 : Int32)))) : ∃ k, Arv Z h a k .byte N.toInt32 (List.replicate N (.int (0 : Int32))) (.int (0 : Int32)) := by
  obtain ⟨c, A, r, q⟩ := F
  rw [List.length_replicate] at q
  have sz : c.slots.size = N := by rw [r]; simp
  have cN : N.toInt32.toNatClampNeg = N := by simp only [Int32.toNatClampNeg, len_toInt q]; rfl
  have g0 : ∀ i, (List.replicate N (Value.int (0 : Int32))).getD i (.int (0 : Int32)) = .int (0 : Int32) := fun i => by
    rw [List.getD_eq_getElem?_getD, List.getElem?_replicate]; split <;> rfl
  refine ⟨c.cls, c, A, rfl, by rw [sz, cN], ?_, fun i hi => ?_, fun i _ => by rw [g0]; rfl⟩
  · rw [Int32.lt_iff_toInt_lt, len_toInt q]
    have h0 : (0 : Int32).toInt = 0 := rfl
    omega
  · rw [g0, r]
    rw [sz] at hi
    simp [List.getElem?_replicate, hi]
theorem Arv.ar0 {a : Addr} {k : ClassId} {N : Nat} {vs : List Value} (hN : N < 2 ^ 31) (F : Arv Z h a k .byte N.toInt32 vs (.int (0 : Int32))) (hv : ∀ i, vs.getD i (.int (0 : Int32)) = .int (0 : Int32)) : AR Z h a .byte (List.replicate N (.int (0 : Int32))) := by
  obtain ⟨c, A, -, S, -, H, -⟩ := F
  have cN : N.toInt32.toNatClampNeg = N := by simp only [Int32.toNatClampNeg, len_toInt hN]; rfl
  rw [cN] at S
  refine ⟨c, A, ?_, by rw [List.length_replicate]; exact hN⟩
  apply Array.ext_getElem?
  intro i
  by_cases q : i < N
  · rw [H i (by omega), hv]; simp [List.getElem?_replicate, q]
  · rw [Array.getElem?_eq_none (by omega), Array.getElem?_eq_none (by simp; omega)]
theorem Go.acopy0 (C : Ctx p s m meth c Z a0 ws own nm bytes ml ret) (X : St p l e R s m args below meth c n0 T h cells slots) {i W : Nat} {a b : Addr} {n1 n2 : Nat} {nn : Int32} (w1 : Jvm.Cond.methodLink own i Jvm.Stand.acN ∈ ws) (w2 : Jvm.Cond.native Jvm.Stand.acN ∈ ws) (w3 : Jvm.Cond.static Jvm.Stand.acN ∈ ws) (w4 : Jvm.Cond.initialized "java/lang/System" ∈ ws) (F1 : AR Z h a .byte (List.replicate n1 (.int (0 : Int32)))) (F2 : AR Z h b .byte (List.replicate n2 (.int (0 : Int32)))) (hnn : ¬ nn < 0) (h1 : nn.toNatClampNeg ≤ n1) (h2 : nn.toNatClampNeg ≤ n2) (gb : n0 ≤ b) (hsz : Ls.size = ml)
    (hd : decode bytes pc = .ok (.invokestatic i, 3)) (hf : 1 ≤ R.frames) (hW : (rest.map fun v => v.category).sum ≤ W) (hlo : W + (nativeFrameWords "java/lang/System" "arraycopy" 5 + 11) ≤ R.locals)
    (K : ∀ T' h', St p l e R s m args below meth c n0 T' h' cells slots → Keep h h' [b] → AR Z h' b .byte (List.replicate n2 (.int (0 : Int32))) → Go p e below s n0 k n Q (T'.setTop (mkF m (pc + 3) Ls rest))) : Go p e below s n0 k n Q (T.setTop (mkF m pc Ls (.int nn :: .int 0 :: .ref b :: .int 0 :: .ref a :: rest))) := by
  obtain ⟨e0, hz, locs, N, X⟩ := X
  obtain ⟨k1, V1⟩ := F1.arv0
  obtain ⟨k2, V2⟩ := F2.arv0
  have q1 : n1 < 2 ^ 31 := by obtain ⟨_, _, _, q⟩ := F1; rw [List.length_replicate] at q; exact q
  have q2 : n2 < 2 ^ 31 := by obtain ⟨_, _, _, q⟩ := F2; rw [List.length_replicate] at q; exact q
  have c1 : n1.toInt32.toNatClampNeg = n1 := by simp only [Int32.toNatClampNeg, len_toInt q1]; rfl
  have c2 : n2.toInt32.toNatClampNeg = n2 := by simp only [Int32.toNatClampNeg, len_toInt q2]; rfl
  have z0 : (0 : Int32).toNatClampNeg = 0 := rfl
  obtain ⟨T', h', L, X', e', N', KK, V', st⟩ := cpA X C.hx C.hZ C.hown (C.w w1) (C.w w2) (C.w w3) (C.w w4) e0 V1 V2 (sp := 0) (dp := 0) (nn := nn) (Or.inl ⟨rfl, rfl⟩) (by decide) (by decide) hnn (by rw [z0, c1]; omega) (by rw [z0, c2]; omega) rfl (by rw [z0, List.length_replicate]; omega) N gb (g := mkF m pc Ls (.int nn :: .int 0 :: .ref b :: .int 0 :: .ref a :: rest)) rfl (hsz.trans C.hml.symm) rfl (hb C.hby hd) hf (W := W) (by show 2 * 0 + _ ≤ _; omega) hlo
  refine Go.st st (K T' h' ⟨e', hz, L, N', X'⟩ KK (Arv.ar0 q2 V' fun j => ?_))
  have g0 : ∀ (vs : List Value), (∀ x ∈ vs, x = .int (0 : Int32)) → vs.getD j (.int (0 : Int32)) = .int (0 : Int32) := fun vs hv => by
    rw [List.getD_eq_getElem?_getD]
    cases hq : vs[j]? with
    | none => rfl
    | some x => exact hv x (List.mem_of_getElem? hq)
  refine g0 _ fun x hx => ?_
  rcases List.mem_append.mp hx with hx | hx
  · rcases List.mem_append.mp hx with hx | hx
    · rw [z0] at hx; simp at hx
    · obtain ⟨y, -, rfl⟩ := List.mem_map.mp hx
      rw [List.getD_eq_getElem?_getD, List.getElem?_replicate]; split <;> rfl
  · exact (List.mem_replicate.mp (List.mem_of_mem_drop hx)).2
end One
end Jvm.OwnGo
namespace Jvm.Pilot.@@N@@
open Jvm Jvm.ClassFile Sem Op Lib Jvm.Free Jvm.Stand Jvm.LawKit Jvm.RoadKit Bundle Jvm.OwnGo Jvm.Pilot.@@N@@.Jvm.D
theorem d1_0 : decode prog_64_method_4_code 0 = .ok (.lload_n 0, 1) := by decide +kernel
theorem d1_1 : decode prog_64_method_4_code 1 = .ok (.ldc2_w 32, 3) := by decide +kernel
theorem d1_4 : decode prog_64_method_4_code 4 = .ok (.lrem, 1) := by decide +kernel
theorem d1_5 : decode prog_64_method_4_code 5 = .ok (.lconst 0, 1) := by decide +kernel
theorem d1_6 : decode prog_64_method_4_code 6 = .ok (.lcmp, 1) := by decide +kernel
theorem d1_7 : decode prog_64_method_4_code 7 = .ok (.ifCond .ne 10, 3) := by decide +kernel
theorem d1_10 : decode prog_64_method_4_code 10 = .ok (.getstatic 3, 3) := by decide +kernel
theorem d1_13 : decode prog_64_method_4_code 13 = .ok (.astore_n 2, 1) := by decide +kernel
theorem d1_14 : decode prog_64_method_4_code 14 = .ok (.goto 24, 3) := by decide +kernel
theorem d1_17 : decode prog_64_method_4_code 17 = .ok (.lload_n 0, 1) := by decide +kernel
theorem d1_18 : decode prog_64_method_4_code 18 = .ok (.ldc2_w 34, 3) := by decide +kernel
theorem d1_21 : decode prog_64_method_4_code 21 = .ok (.lrem, 1) := by decide +kernel
theorem d1_22 : decode prog_64_method_4_code 22 = .ok (.lconst 0, 1) := by decide +kernel
theorem d1_23 : decode prog_64_method_4_code 23 = .ok (.lcmp, 1) := by decide +kernel
theorem d1_24 : decode prog_64_method_4_code 24 = .ok (.ifCond .ne 10, 3) := by decide +kernel
theorem d1_27 : decode prog_64_method_4_code 27 = .ok (.getstatic 7, 3) := by decide +kernel
theorem d1_30 : decode prog_64_method_4_code 30 = .ok (.astore_n 2, 1) := by decide +kernel
theorem d1_31 : decode prog_64_method_4_code 31 = .ok (.goto 7, 3) := by decide +kernel
theorem d1_34 : decode prog_64_method_4_code 34 = .ok (.getstatic 10, 3) := by decide +kernel
theorem d1_37 : decode prog_64_method_4_code 37 = .ok (.astore_n 2, 1) := by decide +kernel
theorem d1_38 : decode prog_64_method_4_code 38 = .ok (.aload_n 2, 1) := by decide +kernel
theorem d1_39 : decode prog_64_method_4_code 39 = .ok (.areturn, 1) := by decide +kernel
theorem pf_1 : plainFor (⟨"com/example/vitruvius/vitruvius/profile/TimePrecision", "of", "(J)Lcom/example/vitruvius/vitruvius/profile/TimePrecision;"⟩ : MethodName) = true := plainFor_of_name (by first | (simp [plainName, overriddenIn]; done) | decide +kernel)
theorem pd_1 : parseMethodDescriptor "(J)Lcom/example/vitruvius/vitruvius/profile/TimePrecision;" = some ⟨[.long], some (.object "com/example/vitruvius/vitruvius/profile/TimePrecision")⟩ := by decide +kernel
def pick (x : Int64) (am au an : Addr) : Addr := if x % 1000000 = 0 then am else if x % 1000 = 0 then au else an
set_option maxRecDepth 65536 in
set_option maxHeartbeats 40000000 in
theorem con_of (l : Launch) (Z : State) (a0 : Array Value) (hw : ∀ d ∈ tables_1, d.before a0 Z = true) (n0 : Nat) (h0 : Heap) (Z0 : n0 ≤ h0.size) (x : Int64) (am au an : Addr) (S_am : Sta Z h0 "com/example/vitruvius/vitruvius/profile/TimePrecision" "MILLISECOND" "Lcom/example/vitruvius/vitruvius/profile/TimePrecision;" (.ref am)) (S_au : Sta Z h0 "com/example/vitruvius/vitruvius/profile/TimePrecision" "MICROSECOND" "Lcom/example/vitruvius/vitruvius/profile/TimePrecision;" (.ref au)) (S_an : Sta Z h0 "com/example/vitruvius/vitruvius/profile/TimePrecision" "NANOSECOND" "Lcom/example/vitruvius/vitruvius/profile/TimePrecision;" (.ref an)) :
    Con l Z (⟨"com/example/vitruvius/vitruvius/profile/TimePrecision", "of", "(J)Lcom/example/vitruvius/vitruvius/profile/TimePrecision;"⟩ : MethodName) prog_64_method_4_code 3 (some (.object "com/example/vitruvius/vitruvius/profile/TimePrecision")) [] ({ frames := 0, cells := 0, slots := 0, locals := 0 } : Room) n0 #[(.long x)] h0 (fun v h => v = some (.ref (pick x am au an)) ∧ h = h0) := by
  refine Con.mk pf_1 hw Z0 ?_
  intro p e s m below meth c T0 C X0
  have ef : entryFrame m #[(.long x)] 3 = mkF m 0 #[.val (.long x), .second, .unset] [] := by first | (simp [entryFrame, mkF, argsToLocals, Value.category]; done) | rfl
  rw [ef]
  show Go p e below s n0 _ _ _ (T0.setTop (mkF m 0 #[.val (.long x), .second, .unset] []))
  refine Go.st (fun _ => XS.lloadN X0.here C.hx rfl (hb C.hby d1_0) rfl) ?_
  show Go p e below s n0 _ _ _ (T0.setTop (mkF m 1 #[.val (.long x), .second, .unset] [(.long x)]))
  refine Go.ldcJ C X0 (wd 10 rfl) d1_1 ?_
  show Go p e below s n0 _ _ _ (T0.setTop (mkF m 4 #[.val (.long x), .second, .unset] [(.long (1000000 : Int64)), (.long x)]))
  refine Go.lrem C X0 (by decide) d1_4 ?_
  show Go p e below s n0 _ _ _ (T0.setTop (mkF m 5 #[.val (.long x), .second, .unset] [(.long (x % (1000000 : Int64)))]))
  refine Go.st (fun _ => XS.lconst X0.here C.hx rfl (hb C.hby d1_5)) ?_
  show Go p e below s n0 _ _ _ (T0.setTop (mkF m 6 #[.val (.long x), .second, .unset] [(.long (0 : Int64)), (.long (x % (1000000 : Int64)))]))
  refine Go.st (fun _ => XS.lcmp X0.here C.hx rfl (hb C.hby d1_6) rfl) ?_
  show Go p e below s n0 _ _ _ (T0.setTop (mkF m 7 #[.val (.long x), .second, .unset] [(.int (lcmpW (x % (1000000 : Int64)) (0 : Int64)))]))
  refine Go.lif_ne C X0 (pc' := 17) d1_7 (by decide) (by decide) (fun hc7_101 => ?_) (fun hc7_101 => ?_)
  · show Go p e below s n0 _ _ _ (T0.setTop (mkF m 17 #[.val (.long x), .second, .unset] []))
    refine Go.st (fun _ => XS.lloadN X0.here C.hx rfl (hb C.hby d1_17) rfl) ?_
    show Go p e below s n0 _ _ _ (T0.setTop (mkF m 18 #[.val (.long x), .second, .unset] [(.long x)]))
    refine Go.ldcJ C X0 (wd 11 rfl) d1_18 ?_
    show Go p e below s n0 _ _ _ (T0.setTop (mkF m 21 #[.val (.long x), .second, .unset] [(.long (1000 : Int64)), (.long x)]))
    refine Go.lrem C X0 (by decide) d1_21 ?_
    show Go p e below s n0 _ _ _ (T0.setTop (mkF m 22 #[.val (.long x), .second, .unset] [(.long (x % (1000 : Int64)))]))
    refine Go.st (fun _ => XS.lconst X0.here C.hx rfl (hb C.hby d1_22)) ?_
    show Go p e below s n0 _ _ _ (T0.setTop (mkF m 23 #[.val (.long x), .second, .unset] [(.long (0 : Int64)), (.long (x % (1000 : Int64)))]))
    refine Go.st (fun _ => XS.lcmp X0.here C.hx rfl (hb C.hby d1_23) rfl) ?_
    show Go p e below s n0 _ _ _ (T0.setTop (mkF m 24 #[.val (.long x), .second, .unset] [(.int (lcmpW (x % (1000 : Int64)) (0 : Int64)))]))
    refine Go.lif_ne C X0 (pc' := 34) d1_24 (by decide) (by decide) (fun hc24_102 => ?_) (fun hc24_102 => ?_)
    · show Go p e below s n0 _ _ _ (T0.setTop (mkF m 34 #[.val (.long x), .second, .unset] []))
      refine Go.getS C X0 (wd 12 rfl) S_an d1_34 (fun T103 X103 => ?_)
      show Go p e below s n0 _ _ _ (T103.setTop (mkF m 37 #[.val (.long x), .second, .unset] [(.ref an)]))
      refine Go.st (fun _ => XS.astoreN X103.here C.hx rfl (hb C.hby d1_37) rfl rfl (l' := #[.val (.long x), .second, .val (.ref an)]) rfl) ?_
      show Go p e below s n0 _ _ _ (T103.setTop (mkF m 38 #[.val (.long x), .second, .val (.ref an)] []))
      refine Go.st (fun _ => XS.aloadN X103.here C.hx rfl (hb C.hby d1_38) rfl rfl) ?_
      show Go p e below s n0 _ _ _ (T103.setTop (mkF m 39 #[.val (.long x), .second, .val (.ref an)] [(.ref an)]))
      exact Go.retA C X103 rfl rfl d1_39 ⟨by simp [pick, hc7_101, hc24_102], rfl⟩ (by decide) (by decide)
    · show Go p e below s n0 _ _ _ (T0.setTop (mkF m 27 #[.val (.long x), .second, .unset] []))
      refine Go.getS C X0 (wd 18 rfl) S_au d1_27 (fun T104 X104 => ?_)
      show Go p e below s n0 _ _ _ (T104.setTop (mkF m 30 #[.val (.long x), .second, .unset] [(.ref au)]))
      refine Go.st (fun _ => XS.astoreN X104.here C.hx rfl (hb C.hby d1_30) rfl rfl (l' := #[.val (.long x), .second, .val (.ref au)]) rfl) ?_
      show Go p e below s n0 _ _ _ (T104.setTop (mkF m 31 #[.val (.long x), .second, .val (.ref au)] []))
      refine Go.st (fun _ => XS.goto X104.here C.hx rfl (pc0 := 31) (pc' := 38) rfl (hb C.hby d1_31) (by decide) (by decide)) ?_
      show Go p e below s n0 _ _ _ (T104.setTop (mkF m 38 #[.val (.long x), .second, .val (.ref au)] []))
      refine Go.st (fun _ => XS.aloadN X104.here C.hx rfl (hb C.hby d1_38) rfl rfl) ?_
      show Go p e below s n0 _ _ _ (T104.setTop (mkF m 39 #[.val (.long x), .second, .val (.ref au)] [(.ref au)]))
      exact Go.retA C X104 rfl rfl d1_39 ⟨by simp [pick, hc7_101, hc24_102], rfl⟩ (by decide) (by decide)
  · show Go p e below s n0 _ _ _ (T0.setTop (mkF m 10 #[.val (.long x), .second, .unset] []))
    refine Go.getS C X0 (wd 15 rfl) S_am d1_10 (fun T105 X105 => ?_)
    show Go p e below s n0 _ _ _ (T105.setTop (mkF m 13 #[.val (.long x), .second, .unset] [(.ref am)]))
    refine Go.st (fun _ => XS.astoreN X105.here C.hx rfl (hb C.hby d1_13) rfl rfl (l' := #[.val (.long x), .second, .val (.ref am)]) rfl) ?_
    show Go p e below s n0 _ _ _ (T105.setTop (mkF m 14 #[.val (.long x), .second, .val (.ref am)] []))
    refine Go.st (fun _ => XS.goto X105.here C.hx rfl (pc0 := 14) (pc' := 38) rfl (hb C.hby d1_14) (by decide) (by decide)) ?_
    show Go p e below s n0 _ _ _ (T105.setTop (mkF m 38 #[.val (.long x), .second, .val (.ref am)] []))
    refine Go.st (fun _ => XS.aloadN X105.here C.hx rfl (hb C.hby d1_38) rfl rfl) ?_
    show Go p e below s n0 _ _ _ (T105.setTop (mkF m 39 #[.val (.long x), .second, .val (.ref am)] [(.ref am)]))
    exact Go.retA C X105 rfl rfl d1_39 ⟨by simp [pick, hc7_101], rfl⟩ (by decide) (by decide)
theorem pf_0 : plainFor x = true := plainFor_of_name (by first | (simp [plainName, overriddenIn]; done) | decide +kernel)
theorem pd_0 : parseMethodDescriptor "(JIII)Z" = some ⟨[.long, .int, .int, .int], some .boolean⟩ := by decide +kernel
theorem mod1000 (x : Int32) : ¬ ((x &&& (2147483647 : Int32)) % (1000 : Int32)) < 0 ∧ ((x &&& (2147483647 : Int32)) % (1000 : Int32)) < 1000 := by
  have h := (c_and x 2147483647 (by decide)).1
  have q := (c_irem (x &&& (2147483647 : Int32)) 1000 1000 rfl).1 h
  rw [Int32.lt_iff_toInt_lt, Int32.lt_iff_toInt_lt, q]
  have h0 : (0 : Int32).toInt = 0 := rfl
  have h1 : (1000 : Int32).toInt = 1000 := rfl
  omega
theorem zero1000 : ¬ (0 : Int32) < 0 ∧ (0 : Int32) < 1000 := by decide
set_option maxHeartbeats 4000000 in
theorem pl_main (q : Int64) (b c : Int32) (sm : Int64) (am au an ex : Addr) (hb : ¬ b < 0 ∧ b < 1000) (hc : ¬ c < 0 ∧ c < 1000) (hs : sm = -(b.toInt64 * (1000 : Int64) + c.toInt64) ∨ sm = b.toInt64 * (1000 : Int64) + c.toInt64)
    (he : (¬ c = 0 ∧ ex = an) ∨ (c = 0 ∧ ¬ b = 0 ∧ ex = au) ∨ (c = 0 ∧ b = 0 ∧ ex = am)) : pick ((q % (9223372036852 : Int64)) * (1000000 : Int64) + sm) am au an = ex := by
  have h0 : (0 : Int32).toInt = 0 := rfl
  have hk : (1000 : Int32).toInt = 1000 := rfl
  simp only [Int32.lt_iff_toInt_lt, h0, hk] at hb hc
  have lq : (9223372036852 : Int64).toInt = 9223372036852 := rfl
  have lK : (1000 : Int64).toInt = 1000 := rfl
  have lM : (1000000 : Int64).toInt = 1000000 := rfl
  have l0 : (0 : Int64).toInt = 0 := rfl
  obtain ⟨a, ha⟩ : ∃ a, a = (q % (9223372036852 : Int64)).toInt := ⟨_, rfl⟩
  have ra : -9223372036851 ≤ a ∧ a ≤ 9223372036851 := by
    rw [ha, Int64.toInt_mod, lq]
    obtain ⟨t1, t2⟩ := tr q.toInt 9223372036852
    rcases Int.lt_or_le q.toInt 0 with u | u
    · rw [t2 u]; omega
    · rw [t1 u]; omega
  have eb : b.toInt64.toInt = b.toInt := Int32.toInt_toInt64 b
  have ec : c.toInt64.toInt = c.toInt := Int32.toInt_toInt64 c
  have fit : ∀ z : Int, -9223372036854775808 ≤ z → z < 9223372036854775808 → XT.fits64 z := fun z h1 h2 => ⟨by omega, by omega⟩
  have em0 : (b.toInt64 * (1000 : Int64)).toInt = b.toInt * 1000 := by
    rw [XT.mul64 (by rw [eb, lK]; exact fit _ (by omega) (by omega)), eb, lK]
  have em : (b.toInt64 * (1000 : Int64) + c.toInt64).toInt = b.toInt * 1000 + c.toInt := by
    rw [XT.add64 (by rw [em0, ec]; exact fit _ (by omega) (by omega)), em0, ec]
  obtain ⟨M, hM⟩ : ∃ M, M = sm.toInt := ⟨_, rfl⟩
  have eM : M = -(b.toInt * 1000 + c.toInt) ∨ M = b.toInt * 1000 + c.toInt := by
    rcases hs with rfl | rfl
    · left
      rw [hM, Int64.toInt_neg, em]
      exact XT.bmod64 (fit _ (by omega) (by omega))
    · right
      rw [hM, em]
  have en0 : ((q % (9223372036852 : Int64)) * (1000000 : Int64)).toInt = a * 1000000 := by
    rw [XT.mul64 (by rw [← ha, lM]; exact fit _ (by omega) (by omega)), ← ha, lM]
  have en : ((q % (9223372036852 : Int64)) * (1000000 : Int64) + sm).toInt = a * 1000000 + M := by
    rw [XT.add64 (by rw [en0, ← hM]; exact fit _ (by omega) (by omega)), en0, ← hM]
  have e6 : (((q % (9223372036852 : Int64)) * (1000000 : Int64) + sm) % 1000000 = 0) ↔ (a * 1000000 + M) % 1000000 = 0 := by
    rw [← Int64.toInt_inj, Int64.toInt_mod, en, lM, l0]
    exact tm0 _ _
  have e3 : (((q % (9223372036852 : Int64)) * (1000000 : Int64) + sm) % 1000 = 0) ↔ (a * 1000000 + M) % 1000 = 0 := by
    rw [← Int64.toInt_inj, Int64.toInt_mod, en, lK, l0]
    exact tm0 _ _
  have c0 : c = 0 ↔ c.toInt = 0 := by rw [← Int32.toInt_inj, h0]
  have b0 : b = 0 ↔ b.toInt = 0 := by rw [← Int32.toInt_inj, h0]
  unfold pick
  rw [c0, b0] at he
  obtain ⟨u6, hu6⟩ : ∃ u : Prop, u = (((q % (9223372036852 : Int64)) * (1000000 : Int64) + sm) % 1000000 = 0) := ⟨_, rfl⟩
  obtain ⟨u3, hu3⟩ : ∃ u : Prop, u = (((q % (9223372036852 : Int64)) * (1000000 : Int64) + sm) % 1000 = 0) := ⟨_, rfl⟩
  rw [← hu6] at e6
  rw [← hu3] at e3
  clear en en0 em em0 hM ha hs fit eb ec
  rcases he with ⟨h1, rfl⟩ | ⟨h1, h2, rfl⟩ | ⟨h1, h2, rfl⟩
  · have n6 : ¬ u6 := by rw [e6]; omega
    have n3 : ¬ u3 := by rw [e3]; omega
    rw [hu6] at n6; rw [hu3] at n3
    rw [if_neg n6, if_neg n3]
  · have n6 : ¬ u6 := by rw [e6]; omega
    have n3 : u3 := by rw [e3]; omega
    rw [hu6] at n6; rw [hu3] at n3
    rw [if_neg n6, if_pos n3]
  · have n6 : u6 := by rw [e6]; omega
    rw [hu6] at n6
    rw [if_pos n6]
set_option maxRecDepth 65536 in
set_option maxHeartbeats 40000000 in
theorem con_law (l : Launch) (Z : State) (a0 : Array Value) (hw : ∀ d ∈ tables_1, d.before a0 Z = true) (n0 : Nat) (h0 : Heap) (Z0 : n0 ≤ h0.size) (q : Int64) (br cr fl : Int32) (am au an : Addr) (S_am : Sta Z h0 "com/example/vitruvius/vitruvius/profile/TimePrecision" "MILLISECOND" "Lcom/example/vitruvius/vitruvius/profile/TimePrecision;" (.ref am)) (S_au : Sta Z h0 "com/example/vitruvius/vitruvius/profile/TimePrecision" "MICROSECOND" "Lcom/example/vitruvius/vitruvius/profile/TimePrecision;" (.ref au)) (S_an : Sta Z h0 "com/example/vitruvius/vitruvius/profile/TimePrecision" "NANOSECOND" "Lcom/example/vitruvius/vitruvius/profile/TimePrecision;" (.ref an)) :
    Con l Z x code maxLocals ret tables_1 room_1 n0 #[(.long q), (.int br), (.int cr), (.int fl)] h0 (fun v h => v = some (.int 1)) := by
  refine Con.mk pf_0 hw Z0 ?_
  intro p e s m below meth c T0 C X0
  have ef : entryFrame m #[(.long q), (.int br), (.int cr), (.int fl)] maxLocals = mkF m 0 #[.val (.long q), .second, .val (.int br), .val (.int cr), .val (.int fl), .unset, .unset, .unset, .unset, .unset, .unset, .unset, .unset, .unset, .unset, .unset] [] := by first | (simp [entryFrame, mkF, argsToLocals, Value.category, maxLocals]; done) | rfl
  rw [ef]
  show Go p e below s n0 _ _ _ (T0.setTop (mkF m 0 #[.val (.long q), .second, .val (.int br), .val (.int cr), .val (.int fl), .unset, .unset, .unset, .unset, .unset, .unset, .unset, .unset, .unset, .unset, .unset] []))
  refine Go.st (fun _ => XS.lloadN X0.here C.hx rfl (hb C.hby at_0) rfl) ?_
  show Go p e below s n0 _ _ _ (T0.setTop (mkF m 1 #[.val (.long q), .second, .val (.int br), .val (.int cr), .val (.int fl), .unset, .unset, .unset, .unset, .unset, .unset, .unset, .unset, .unset, .unset, .unset] [(.long q)]))
  refine Go.ldcJ C X0 (wd 0 rfl) at_1 ?_
  show Go p e below s n0 _ _ _ (T0.setTop (mkF m 4 #[.val (.long q), .second, .val (.int br), .val (.int cr), .val (.int fl), .unset, .unset, .unset, .unset, .unset, .unset, .unset, .unset, .unset, .unset, .unset] [(.long (9223372036852 : Int64)), (.long q)]))
  refine Go.lrem C X0 (by decide) at_4 ?_
  show Go p e below s n0 _ _ _ (T0.setTop (mkF m 5 #[.val (.long q), .second, .val (.int br), .val (.int cr), .val (.int fl), .unset, .unset, .unset, .unset, .unset, .unset, .unset, .unset, .unset, .unset, .unset] [(.long (q % (9223372036852 : Int64)))]))
  refine Go.st (fun _ => XS.lstore X0.here C.hx rfl (hb C.hby at_5) rfl (l' := #[.val (.long q), .second, .val (.int br), .val (.int cr), .val (.int fl), .val (.long (q % (9223372036852 : Int64))), .second, .unset, .unset, .unset, .unset, .unset, .unset, .unset, .unset, .unset]) rfl) ?_
  show Go p e below s n0 _ _ _ (T0.setTop (mkF m 7 #[.val (.long q), .second, .val (.int br), .val (.int cr), .val (.int fl), .val (.long (q % (9223372036852 : Int64))), .second, .unset, .unset, .unset, .unset, .unset, .unset, .unset, .unset, .unset] []))
  refine Go.st (fun _ => XS.iloadN X0.here C.hx rfl (hb C.hby at_7) rfl) ?_
  show Go p e below s n0 _ _ _ (T0.setTop (mkF m 8 #[.val (.long q), .second, .val (.int br), .val (.int cr), .val (.int fl), .val (.long (q % (9223372036852 : Int64))), .second, .unset, .unset, .unset, .unset, .unset, .unset, .unset, .unset, .unset] [(.int br)]))
  refine Go.ldcI C X0 (wd 1 rfl) at_8 ?_
  show Go p e below s n0 _ _ _ (T0.setTop (mkF m 10 #[.val (.long q), .second, .val (.int br), .val (.int cr), .val (.int fl), .val (.long (q % (9223372036852 : Int64))), .second, .unset, .unset, .unset, .unset, .unset, .unset, .unset, .unset, .unset] [(.int (2147483647 : Int32)), (.int br)]))
  refine Go.st (fun _ => XS.iand X0.here C.hx rfl (hb C.hby at_10) rfl) ?_
  show Go p e below s n0 _ _ _ (T0.setTop (mkF m 11 #[.val (.long q), .second, .val (.int br), .val (.int cr), .val (.int fl), .val (.long (q % (9223372036852 : Int64))), .second, .unset, .unset, .unset, .unset, .unset, .unset, .unset, .unset, .unset] [(.int (br &&& (2147483647 : Int32)))]))
  refine Go.st (fun _ => XS.sipush X0.here C.hx rfl (hb C.hby at_11)) ?_
  show Go p e below s n0 _ _ _ (T0.setTop (mkF m 14 #[.val (.long q), .second, .val (.int br), .val (.int cr), .val (.int fl), .val (.long (q % (9223372036852 : Int64))), .second, .unset, .unset, .unset, .unset, .unset, .unset, .unset, .unset, .unset] [(.int (1000 : Int32)), (.int (br &&& (2147483647 : Int32)))]))
  refine Go.irem C X0 (by decide) at_14 ?_
  show Go p e below s n0 _ _ _ (T0.setTop (mkF m 15 #[.val (.long q), .second, .val (.int br), .val (.int cr), .val (.int fl), .val (.long (q % (9223372036852 : Int64))), .second, .unset, .unset, .unset, .unset, .unset, .unset, .unset, .unset, .unset] [(.int ((br &&& (2147483647 : Int32)) % (1000 : Int32)))]))
  refine Go.st (fun _ => XS.istore X0.here C.hx rfl (hb C.hby at_15) rfl (l' := #[.val (.long q), .second, .val (.int br), .val (.int cr), .val (.int fl), .val (.long (q % (9223372036852 : Int64))), .second, .val (.int ((br &&& (2147483647 : Int32)) % (1000 : Int32))), .unset, .unset, .unset, .unset, .unset, .unset, .unset, .unset]) rfl) ?_
  show Go p e below s n0 _ _ _ (T0.setTop (mkF m 17 #[.val (.long q), .second, .val (.int br), .val (.int cr), .val (.int fl), .val (.long (q % (9223372036852 : Int64))), .second, .val (.int ((br &&& (2147483647 : Int32)) % (1000 : Int32))), .unset, .unset, .unset, .unset, .unset, .unset, .unset, .unset] []))
  refine Go.st (fun _ => XS.iload X0.here C.hx rfl (hb C.hby at_17) rfl) ?_
  show Go p e below s n0 _ _ _ (T0.setTop (mkF m 19 #[.val (.long q), .second, .val (.int br), .val (.int cr), .val (.int fl), .val (.long (q % (9223372036852 : Int64))), .second, .val (.int ((br &&& (2147483647 : Int32)) % (1000 : Int32))), .unset, .unset, .unset, .unset, .unset, .unset, .unset, .unset] [(.int fl)]))
  refine Go.st (fun _ => XS.iconst X0.here C.hx rfl (hb C.hby at_19)) ?_
  show Go p e below s n0 _ _ _ (T0.setTop (mkF m 20 #[.val (.long q), .second, .val (.int br), .val (.int cr), .val (.int fl), .val (.long (q % (9223372036852 : Int64))), .second, .val (.int ((br &&& (2147483647 : Int32)) % (1000 : Int32))), .unset, .unset, .unset, .unset, .unset, .unset, .unset, .unset] [(.int (2 : Int32)), (.int fl)]))
  refine Go.st (fun _ => XS.iand X0.here C.hx rfl (hb C.hby at_20) rfl) ?_
  show Go p e below s n0 _ _ _ (T0.setTop (mkF m 21 #[.val (.long q), .second, .val (.int br), .val (.int cr), .val (.int fl), .val (.long (q % (9223372036852 : Int64))), .second, .val (.int ((br &&& (2147483647 : Int32)) % (1000 : Int32))), .unset, .unset, .unset, .unset, .unset, .unset, .unset, .unset] [(.int (fl &&& (2 : Int32)))]))
  have J107 : ∀ (TJ107 : State) (bv : Int32), St p l e room_1 s m #[(.long q), (.int br), (.int cr), (.int fl)] below meth c n0 TJ107 h0 0 0 → ¬ bv < (0 : Int32) ∧ bv < (1000 : Int32) → Go p e below s n0 (room_1).cells (room_1).slots (fun v h => v = some (.int 1)) (TJ107.setTop (mkF m 27 #[.val (.long q), .second, .val (.int br), .val (.int cr), .val (.int fl), .val (.long (q % (9223372036852 : Int64))), .second, .val (.int bv), .unset, .unset, .unset, .unset, .unset, .unset, .unset, .unset] [])) := by
    intro TJ107 bv XJ107 hj_bv
    show Go p e below s n0 _ _ _ (TJ107.setTop (mkF m 27 #[.val (.long q), .second, .val (.int br), .val (.int cr), .val (.int fl), .val (.long (q % (9223372036852 : Int64))), .second, .val (.int bv), .unset, .unset, .unset, .unset, .unset, .unset, .unset, .unset] []))
    refine Go.st (fun _ => XS.iloadN XJ107.here C.hx rfl (hb C.hby at_27) rfl) ?_
    show Go p e below s n0 _ _ _ (TJ107.setTop (mkF m 28 #[.val (.long q), .second, .val (.int br), .val (.int cr), .val (.int fl), .val (.long (q % (9223372036852 : Int64))), .second, .val (.int bv), .unset, .unset, .unset, .unset, .unset, .unset, .unset, .unset] [(.int cr)]))
    refine Go.ldcI C XJ107 (wd 1 rfl) at_28 ?_
    show Go p e below s n0 _ _ _ (TJ107.setTop (mkF m 30 #[.val (.long q), .second, .val (.int br), .val (.int cr), .val (.int fl), .val (.long (q % (9223372036852 : Int64))), .second, .val (.int bv), .unset, .unset, .unset, .unset, .unset, .unset, .unset, .unset] [(.int (2147483647 : Int32)), (.int cr)]))
    refine Go.st (fun _ => XS.iand XJ107.here C.hx rfl (hb C.hby at_30) rfl) ?_
    show Go p e below s n0 _ _ _ (TJ107.setTop (mkF m 31 #[.val (.long q), .second, .val (.int br), .val (.int cr), .val (.int fl), .val (.long (q % (9223372036852 : Int64))), .second, .val (.int bv), .unset, .unset, .unset, .unset, .unset, .unset, .unset, .unset] [(.int (cr &&& (2147483647 : Int32)))]))
    refine Go.st (fun _ => XS.sipush XJ107.here C.hx rfl (hb C.hby at_31)) ?_
    show Go p e below s n0 _ _ _ (TJ107.setTop (mkF m 34 #[.val (.long q), .second, .val (.int br), .val (.int cr), .val (.int fl), .val (.long (q % (9223372036852 : Int64))), .second, .val (.int bv), .unset, .unset, .unset, .unset, .unset, .unset, .unset, .unset] [(.int (1000 : Int32)), (.int (cr &&& (2147483647 : Int32)))]))
    refine Go.irem C XJ107 (by decide) at_34 ?_
    show Go p e below s n0 _ _ _ (TJ107.setTop (mkF m 35 #[.val (.long q), .second, .val (.int br), .val (.int cr), .val (.int fl), .val (.long (q % (9223372036852 : Int64))), .second, .val (.int bv), .unset, .unset, .unset, .unset, .unset, .unset, .unset, .unset] [(.int ((cr &&& (2147483647 : Int32)) % (1000 : Int32)))]))
    refine Go.st (fun _ => XS.istore XJ107.here C.hx rfl (hb C.hby at_35) rfl (l' := #[.val (.long q), .second, .val (.int br), .val (.int cr), .val (.int fl), .val (.long (q % (9223372036852 : Int64))), .second, .val (.int bv), .val (.int ((cr &&& (2147483647 : Int32)) % (1000 : Int32))), .unset, .unset, .unset, .unset, .unset, .unset, .unset]) rfl) ?_
    show Go p e below s n0 _ _ _ (TJ107.setTop (mkF m 37 #[.val (.long q), .second, .val (.int br), .val (.int cr), .val (.int fl), .val (.long (q % (9223372036852 : Int64))), .second, .val (.int bv), .val (.int ((cr &&& (2147483647 : Int32)) % (1000 : Int32))), .unset, .unset, .unset, .unset, .unset, .unset, .unset] []))
    refine Go.st (fun _ => XS.iload XJ107.here C.hx rfl (hb C.hby at_37) rfl) ?_
    show Go p e below s n0 _ _ _ (TJ107.setTop (mkF m 39 #[.val (.long q), .second, .val (.int br), .val (.int cr), .val (.int fl), .val (.long (q % (9223372036852 : Int64))), .second, .val (.int bv), .val (.int ((cr &&& (2147483647 : Int32)) % (1000 : Int32))), .unset, .unset, .unset, .unset, .unset, .unset, .unset] [(.int fl)]))
    refine Go.st (fun _ => XS.iconst XJ107.here C.hx rfl (hb C.hby at_39)) ?_
    show Go p e below s n0 _ _ _ (TJ107.setTop (mkF m 40 #[.val (.long q), .second, .val (.int br), .val (.int cr), .val (.int fl), .val (.long (q % (9223372036852 : Int64))), .second, .val (.int bv), .val (.int ((cr &&& (2147483647 : Int32)) % (1000 : Int32))), .unset, .unset, .unset, .unset, .unset, .unset, .unset] [(.int (4 : Int32)), (.int fl)]))
    refine Go.st (fun _ => XS.iand XJ107.here C.hx rfl (hb C.hby at_40) rfl) ?_
    show Go p e below s n0 _ _ _ (TJ107.setTop (mkF m 41 #[.val (.long q), .second, .val (.int br), .val (.int cr), .val (.int fl), .val (.long (q % (9223372036852 : Int64))), .second, .val (.int bv), .val (.int ((cr &&& (2147483647 : Int32)) % (1000 : Int32))), .unset, .unset, .unset, .unset, .unset, .unset, .unset] [(.int (fl &&& (4 : Int32)))]))
    have J109 : ∀ (TJ109 : State) (cv : Int32), St p l e room_1 s m #[(.long q), (.int br), (.int cr), (.int fl)] below meth c n0 TJ109 h0 0 0 → ¬ cv < (0 : Int32) ∧ cv < (1000 : Int32) → Go p e below s n0 (room_1).cells (room_1).slots (fun v h => v = some (.int 1)) (TJ109.setTop (mkF m 47 #[.val (.long q), .second, .val (.int br), .val (.int cr), .val (.int fl), .val (.long (q % (9223372036852 : Int64))), .second, .val (.int bv), .val (.int cv), .unset, .unset, .unset, .unset, .unset, .unset, .unset] [])) := by
      intro TJ109 cv XJ109 hj_cv
      show Go p e below s n0 _ _ _ (TJ109.setTop (mkF m 47 #[.val (.long q), .second, .val (.int br), .val (.int cr), .val (.int fl), .val (.long (q % (9223372036852 : Int64))), .second, .val (.int bv), .val (.int cv), .unset, .unset, .unset, .unset, .unset, .unset, .unset] []))
      refine Go.st (fun _ => XS.iload XJ109.here C.hx rfl (hb C.hby at_47) rfl) ?_
      show Go p e below s n0 _ _ _ (TJ109.setTop (mkF m 49 #[.val (.long q), .second, .val (.int br), .val (.int cr), .val (.int fl), .val (.long (q % (9223372036852 : Int64))), .second, .val (.int bv), .val (.int cv), .unset, .unset, .unset, .unset, .unset, .unset, .unset] [(.int bv)]))
      refine Go.st (fun _ => XS.i2l XJ109.here C.hx rfl (hb C.hby at_49) rfl) ?_
      show Go p e below s n0 _ _ _ (TJ109.setTop (mkF m 50 #[.val (.long q), .second, .val (.int br), .val (.int cr), .val (.int fl), .val (.long (q % (9223372036852 : Int64))), .second, .val (.int bv), .val (.int cv), .unset, .unset, .unset, .unset, .unset, .unset, .unset] [(.long bv.toInt64)]))
      refine Go.ldcJ C XJ109 (wd 2 rfl) at_50 ?_
      show Go p e below s n0 _ _ _ (TJ109.setTop (mkF m 53 #[.val (.long q), .second, .val (.int br), .val (.int cr), .val (.int fl), .val (.long (q % (9223372036852 : Int64))), .second, .val (.int bv), .val (.int cv), .unset, .unset, .unset, .unset, .unset, .unset, .unset] [(.long (1000 : Int64)), (.long bv.toInt64)]))
      refine Go.st (fun _ => XS.lmul XJ109.here C.hx rfl (hb C.hby at_53) rfl) ?_
      show Go p e below s n0 _ _ _ (TJ109.setTop (mkF m 54 #[.val (.long q), .second, .val (.int br), .val (.int cr), .val (.int fl), .val (.long (q % (9223372036852 : Int64))), .second, .val (.int bv), .val (.int cv), .unset, .unset, .unset, .unset, .unset, .unset, .unset] [(.long (bv.toInt64 * (1000 : Int64)))]))
      refine Go.st (fun _ => XS.iload XJ109.here C.hx rfl (hb C.hby at_54) rfl) ?_
      show Go p e below s n0 _ _ _ (TJ109.setTop (mkF m 56 #[.val (.long q), .second, .val (.int br), .val (.int cr), .val (.int fl), .val (.long (q % (9223372036852 : Int64))), .second, .val (.int bv), .val (.int cv), .unset, .unset, .unset, .unset, .unset, .unset, .unset] [(.int cv), (.long (bv.toInt64 * (1000 : Int64)))]))
      refine Go.st (fun _ => XS.i2l XJ109.here C.hx rfl (hb C.hby at_56) rfl) ?_
      show Go p e below s n0 _ _ _ (TJ109.setTop (mkF m 57 #[.val (.long q), .second, .val (.int br), .val (.int cr), .val (.int fl), .val (.long (q % (9223372036852 : Int64))), .second, .val (.int bv), .val (.int cv), .unset, .unset, .unset, .unset, .unset, .unset, .unset] [(.long cv.toInt64), (.long (bv.toInt64 * (1000 : Int64)))]))
      refine Go.st (fun _ => XS.ladd XJ109.here C.hx rfl (hb C.hby at_57) rfl) ?_
      show Go p e below s n0 _ _ _ (TJ109.setTop (mkF m 58 #[.val (.long q), .second, .val (.int br), .val (.int cr), .val (.int fl), .val (.long (q % (9223372036852 : Int64))), .second, .val (.int bv), .val (.int cv), .unset, .unset, .unset, .unset, .unset, .unset, .unset] [(.long ((bv.toInt64 * (1000 : Int64)) + cv.toInt64))]))
      refine Go.st (fun _ => XS.lstore XJ109.here C.hx rfl (hb C.hby at_58) rfl (l' := #[.val (.long q), .second, .val (.int br), .val (.int cr), .val (.int fl), .val (.long (q % (9223372036852 : Int64))), .second, .val (.int bv), .val (.int cv), .val (.long ((bv.toInt64 * (1000 : Int64)) + cv.toInt64)), .second, .unset, .unset, .unset, .unset, .unset]) rfl) ?_
      show Go p e below s n0 _ _ _ (TJ109.setTop (mkF m 60 #[.val (.long q), .second, .val (.int br), .val (.int cr), .val (.int fl), .val (.long (q % (9223372036852 : Int64))), .second, .val (.int bv), .val (.int cv), .val (.long ((bv.toInt64 * (1000 : Int64)) + cv.toInt64)), .second, .unset, .unset, .unset, .unset, .unset] []))
      refine Go.st (fun _ => XS.iload XJ109.here C.hx rfl (hb C.hby at_60) rfl) ?_
      show Go p e below s n0 _ _ _ (TJ109.setTop (mkF m 62 #[.val (.long q), .second, .val (.int br), .val (.int cr), .val (.int fl), .val (.long (q % (9223372036852 : Int64))), .second, .val (.int bv), .val (.int cv), .val (.long ((bv.toInt64 * (1000 : Int64)) + cv.toInt64)), .second, .unset, .unset, .unset, .unset, .unset] [(.int fl)]))
      refine Go.st (fun _ => XS.iconst XJ109.here C.hx rfl (hb C.hby at_62)) ?_
      show Go p e below s n0 _ _ _ (TJ109.setTop (mkF m 63 #[.val (.long q), .second, .val (.int br), .val (.int cr), .val (.int fl), .val (.long (q % (9223372036852 : Int64))), .second, .val (.int bv), .val (.int cv), .val (.long ((bv.toInt64 * (1000 : Int64)) + cv.toInt64)), .second, .unset, .unset, .unset, .unset, .unset] [(.int (1 : Int32)), (.int fl)]))
      refine Go.st (fun _ => XS.iand XJ109.here C.hx rfl (hb C.hby at_63) rfl) ?_
      show Go p e below s n0 _ _ _ (TJ109.setTop (mkF m 64 #[.val (.long q), .second, .val (.int br), .val (.int cr), .val (.int fl), .val (.long (q % (9223372036852 : Int64))), .second, .val (.int bv), .val (.int cv), .val (.long ((bv.toInt64 * (1000 : Int64)) + cv.toInt64)), .second, .unset, .unset, .unset, .unset, .unset] [(.int (fl &&& (1 : Int32)))]))
      have J111 : ∀ (TJ111 : State) (sm : Int64), St p l e room_1 s m #[(.long q), (.int br), (.int cr), (.int fl)] below meth c n0 TJ111 h0 0 0 → sm = -(bv.toInt64 * (1000 : Int64) + cv.toInt64) ∨ sm = bv.toInt64 * (1000 : Int64) + cv.toInt64 → Go p e below s n0 (room_1).cells (room_1).slots (fun v h => v = some (.int 1)) (TJ111.setTop (mkF m 75 #[.val (.long q), .second, .val (.int br), .val (.int cr), .val (.int fl), .val (.long (q % (9223372036852 : Int64))), .second, .val (.int bv), .val (.int cv), .val (.long ((bv.toInt64 * (1000 : Int64)) + cv.toInt64)), .second, .unset, .unset, .unset, .unset, .unset] [(.long sm)])) := by
        intro TJ111 sm XJ111 hj_sm
        show Go p e below s n0 _ _ _ (TJ111.setTop (mkF m 75 #[.val (.long q), .second, .val (.int br), .val (.int cr), .val (.int fl), .val (.long (q % (9223372036852 : Int64))), .second, .val (.int bv), .val (.int cv), .val (.long ((bv.toInt64 * (1000 : Int64)) + cv.toInt64)), .second, .unset, .unset, .unset, .unset, .unset] [(.long sm)]))
        refine Go.st (fun _ => XS.lstore XJ111.here C.hx rfl (hb C.hby at_75) rfl (l' := #[.val (.long q), .second, .val (.int br), .val (.int cr), .val (.int fl), .val (.long (q % (9223372036852 : Int64))), .second, .val (.int bv), .val (.int cv), .val (.long ((bv.toInt64 * (1000 : Int64)) + cv.toInt64)), .second, .val (.long sm), .second, .unset, .unset, .unset]) rfl) ?_
        show Go p e below s n0 _ _ _ (TJ111.setTop (mkF m 77 #[.val (.long q), .second, .val (.int br), .val (.int cr), .val (.int fl), .val (.long (q % (9223372036852 : Int64))), .second, .val (.int bv), .val (.int cv), .val (.long ((bv.toInt64 * (1000 : Int64)) + cv.toInt64)), .second, .val (.long sm), .second, .unset, .unset, .unset] []))
        refine Go.st (fun _ => XS.lload XJ111.here C.hx rfl (hb C.hby at_77) rfl) ?_
        show Go p e below s n0 _ _ _ (TJ111.setTop (mkF m 79 #[.val (.long q), .second, .val (.int br), .val (.int cr), .val (.int fl), .val (.long (q % (9223372036852 : Int64))), .second, .val (.int bv), .val (.int cv), .val (.long ((bv.toInt64 * (1000 : Int64)) + cv.toInt64)), .second, .val (.long sm), .second, .unset, .unset, .unset] [(.long (q % (9223372036852 : Int64)))]))
        refine Go.ldcJ C XJ111 (wd 3 rfl) at_79 ?_
        show Go p e below s n0 _ _ _ (TJ111.setTop (mkF m 82 #[.val (.long q), .second, .val (.int br), .val (.int cr), .val (.int fl), .val (.long (q % (9223372036852 : Int64))), .second, .val (.int bv), .val (.int cv), .val (.long ((bv.toInt64 * (1000 : Int64)) + cv.toInt64)), .second, .val (.long sm), .second, .unset, .unset, .unset] [(.long (1000000 : Int64)), (.long (q % (9223372036852 : Int64)))]))
        refine Go.st (fun _ => XS.lmul XJ111.here C.hx rfl (hb C.hby at_82) rfl) ?_
        show Go p e below s n0 _ _ _ (TJ111.setTop (mkF m 83 #[.val (.long q), .second, .val (.int br), .val (.int cr), .val (.int fl), .val (.long (q % (9223372036852 : Int64))), .second, .val (.int bv), .val (.int cv), .val (.long ((bv.toInt64 * (1000 : Int64)) + cv.toInt64)), .second, .val (.long sm), .second, .unset, .unset, .unset] [(.long ((q % (9223372036852 : Int64)) * (1000000 : Int64)))]))
        refine Go.st (fun _ => XS.lload XJ111.here C.hx rfl (hb C.hby at_83) rfl) ?_
        show Go p e below s n0 _ _ _ (TJ111.setTop (mkF m 85 #[.val (.long q), .second, .val (.int br), .val (.int cr), .val (.int fl), .val (.long (q % (9223372036852 : Int64))), .second, .val (.int bv), .val (.int cv), .val (.long ((bv.toInt64 * (1000 : Int64)) + cv.toInt64)), .second, .val (.long sm), .second, .unset, .unset, .unset] [(.long sm), (.long ((q % (9223372036852 : Int64)) * (1000000 : Int64)))]))
        refine Go.st (fun _ => XS.ladd XJ111.here C.hx rfl (hb C.hby at_85) rfl) ?_
        show Go p e below s n0 _ _ _ (TJ111.setTop (mkF m 86 #[.val (.long q), .second, .val (.int br), .val (.int cr), .val (.int fl), .val (.long (q % (9223372036852 : Int64))), .second, .val (.int bv), .val (.int cv), .val (.long ((bv.toInt64 * (1000 : Int64)) + cv.toInt64)), .second, .val (.long sm), .second, .unset, .unset, .unset] [(.long (((q % (9223372036852 : Int64)) * (1000000 : Int64)) + sm))]))
        refine Go.st (fun _ => XS.lstore XJ111.here C.hx rfl (hb C.hby at_86) rfl (l' := #[.val (.long q), .second, .val (.int br), .val (.int cr), .val (.int fl), .val (.long (q % (9223372036852 : Int64))), .second, .val (.int bv), .val (.int cv), .val (.long ((bv.toInt64 * (1000 : Int64)) + cv.toInt64)), .second, .val (.long sm), .second, .val (.long (((q % (9223372036852 : Int64)) * (1000000 : Int64)) + sm)), .second, .unset]) rfl) ?_
        show Go p e below s n0 _ _ _ (TJ111.setTop (mkF m 88 #[.val (.long q), .second, .val (.int br), .val (.int cr), .val (.int fl), .val (.long (q % (9223372036852 : Int64))), .second, .val (.int bv), .val (.int cv), .val (.long ((bv.toInt64 * (1000 : Int64)) + cv.toInt64)), .second, .val (.long sm), .second, .val (.long (((q % (9223372036852 : Int64)) * (1000000 : Int64)) + sm)), .second, .unset] []))
        refine Go.st (fun _ => XS.iload XJ111.here C.hx rfl (hb C.hby at_88) rfl) ?_
        show Go p e below s n0 _ _ _ (TJ111.setTop (mkF m 90 #[.val (.long q), .second, .val (.int br), .val (.int cr), .val (.int fl), .val (.long (q % (9223372036852 : Int64))), .second, .val (.int bv), .val (.int cv), .val (.long ((bv.toInt64 * (1000 : Int64)) + cv.toInt64)), .second, .val (.long sm), .second, .val (.long (((q % (9223372036852 : Int64)) * (1000000 : Int64)) + sm)), .second, .unset] [(.int cv)]))
        have J113 : ∀ (TJ113 : State) (ex : Addr), St p l e room_1 s m #[(.long q), (.int br), (.int cr), (.int fl)] below meth c n0 TJ113 h0 0 0 → (¬ cv = 0 ∧ ex = an) ∨ (cv = 0 ∧ ¬ bv = 0 ∧ ex = au) ∨ (cv = 0 ∧ bv = 0 ∧ ex = am) → Go p e below s n0 (room_1).cells (room_1).slots (fun v h => v = some (.int 1)) (TJ113.setTop (mkF m 119 #[.val (.long q), .second, .val (.int br), .val (.int cr), .val (.int fl), .val (.long (q % (9223372036852 : Int64))), .second, .val (.int bv), .val (.int cv), .val (.long ((bv.toInt64 * (1000 : Int64)) + cv.toInt64)), .second, .val (.long sm), .second, .val (.long (((q % (9223372036852 : Int64)) * (1000000 : Int64)) + sm)), .second, .val (.ref ex)] [])) := by
          intro TJ113 ex XJ113 hj_ex
          show Go p e below s n0 _ _ _ (TJ113.setTop (mkF m 119 #[.val (.long q), .second, .val (.int br), .val (.int cr), .val (.int fl), .val (.long (q % (9223372036852 : Int64))), .second, .val (.int bv), .val (.int cv), .val (.long ((bv.toInt64 * (1000 : Int64)) + cv.toInt64)), .second, .val (.long sm), .second, .val (.long (((q % (9223372036852 : Int64)) * (1000000 : Int64)) + sm)), .second, .val (.ref ex)] []))
          refine Go.st (fun _ => XS.lload XJ113.here C.hx rfl (hb C.hby at_119) rfl) ?_
          show Go p e below s n0 _ _ _ (TJ113.setTop (mkF m 121 #[.val (.long q), .second, .val (.int br), .val (.int cr), .val (.int fl), .val (.long (q % (9223372036852 : Int64))), .second, .val (.int bv), .val (.int cv), .val (.long ((bv.toInt64 * (1000 : Int64)) + cv.toInt64)), .second, .val (.long sm), .second, .val (.long (((q % (9223372036852 : Int64)) * (1000000 : Int64)) + sm)), .second, .val (.ref ex)] [(.long (((q % (9223372036852 : Int64)) * (1000000 : Int64)) + sm))]))
          refine Go.callS C XJ113 (W := 0) (argsL := [(.long (((q % (9223372036852 : Int64)) * (1000000 : Int64)) + sm))]) (rest := []) (wd 7 rfl) (wd 8 rfl) (wd 5 rfl) (wd 9 rfl) (by decide) (con_of l Z a0 hw n0 h0 XJ113.size (((q % (9223372036852 : Int64)) * (1000000 : Int64)) + sm) am au an S_am S_au S_an) (by decide) (by decide) rfl (lenOf pd_1 rfl) (Nat.le_of_ble_eq_true rfl) rfl at_121 (by decide) (by decide) (fun T114 h114 v114 X114 hQ114 => ?_)
          obtain ⟨rfl, hh114⟩ := hQ114
          rw [hh114] at X114
          show Go p e below s n0 _ _ _ (T114.setTop (mkF m 124 #[.val (.long q), .second, .val (.int br), .val (.int cr), .val (.int fl), .val (.long (q % (9223372036852 : Int64))), .second, .val (.int bv), .val (.int cv), .val (.long ((bv.toInt64 * (1000 : Int64)) + cv.toInt64)), .second, .val (.long sm), .second, .val (.long (((q % (9223372036852 : Int64)) * (1000000 : Int64)) + sm)), .second, .val (.ref ex)] [(.ref (pick (((q % (9223372036852 : Int64)) * (1000000 : Int64)) + sm) am au an))]))
          refine Go.st (fun _ => XS.aload X114.here C.hx rfl (hb C.hby at_124) rfl rfl) ?_
          show Go p e below s n0 _ _ _ (T114.setTop (mkF m 126 #[.val (.long q), .second, .val (.int br), .val (.int cr), .val (.int fl), .val (.long (q % (9223372036852 : Int64))), .second, .val (.int bv), .val (.int cv), .val (.long ((bv.toInt64 * (1000 : Int64)) + cv.toInt64)), .second, .val (.long sm), .second, .val (.long (((q % (9223372036852 : Int64)) * (1000000 : Int64)) + sm)), .second, .val (.ref ex)] [(.ref ex), (.ref (pick (((q % (9223372036852 : Int64)) * (1000000 : Int64)) + sm) am au an))]))
          refine Go.acmp_ne C X114 (pc' := 133) rfl rfl at_126 (by decide) (by decide) (fun hc => by first | exact absurd hc (congrArg Value.ref (pl_main q bv cv sm am au an ex hj_bv hj_cv hj_sm hj_ex)) | exact absurd (congrArg Value.ref (pl_main q bv cv sm am au an ex hj_bv hj_cv hj_sm hj_ex)) hc) (fun _ => ?_)
          show Go p e below s n0 _ _ _ (T114.setTop (mkF m 129 #[.val (.long q), .second, .val (.int br), .val (.int cr), .val (.int fl), .val (.long (q % (9223372036852 : Int64))), .second, .val (.int bv), .val (.int cv), .val (.long ((bv.toInt64 * (1000 : Int64)) + cv.toInt64)), .second, .val (.long sm), .second, .val (.long (((q % (9223372036852 : Int64)) * (1000000 : Int64)) + sm)), .second, .val (.ref ex)] []))
          refine Go.st (fun _ => XS.iconst X114.here C.hx rfl (hb C.hby at_129)) ?_
          show Go p e below s n0 _ _ _ (T114.setTop (mkF m 130 #[.val (.long q), .second, .val (.int br), .val (.int cr), .val (.int fl), .val (.long (q % (9223372036852 : Int64))), .second, .val (.int bv), .val (.int cv), .val (.long ((bv.toInt64 * (1000 : Int64)) + cv.toInt64)), .second, .val (.long sm), .second, .val (.long (((q % (9223372036852 : Int64)) * (1000000 : Int64)) + sm)), .second, .val (.ref ex)] [(.int (1 : Int32))]))
          refine Go.st (fun _ => XS.goto X114.here C.hx rfl (pc0 := 130) (pc' := 134) rfl (hb C.hby at_130) (by decide) (by decide)) ?_
          show Go p e below s n0 _ _ _ (T114.setTop (mkF m 134 #[.val (.long q), .second, .val (.int br), .val (.int cr), .val (.int fl), .val (.long (q % (9223372036852 : Int64))), .second, .val (.int bv), .val (.int cv), .val (.long ((bv.toInt64 * (1000 : Int64)) + cv.toInt64)), .second, .val (.long sm), .second, .val (.long (((q % (9223372036852 : Int64)) * (1000000 : Int64)) + sm)), .second, .val (.ref ex)] [(.int (1 : Int32))]))
          exact Go.retZ C X114 (by decide) at_134 rfl (by decide) (by decide)
        refine Go.if_eq C XJ111 (pc' := 101) at_90 (by decide) (by decide) (fun hc90_112 => ?_) (fun hc90_112 => ?_)
        · show Go p e below s n0 _ _ _ (TJ111.setTop (mkF m 101 #[.val (.long q), .second, .val (.int br), .val (.int cr), .val (.int fl), .val (.long (q % (9223372036852 : Int64))), .second, .val (.int bv), .val (.int cv), .val (.long ((bv.toInt64 * (1000 : Int64)) + cv.toInt64)), .second, .val (.long sm), .second, .val (.long (((q % (9223372036852 : Int64)) * (1000000 : Int64)) + sm)), .second, .unset] []))
          refine Go.st (fun _ => XS.iload XJ111.here C.hx rfl (hb C.hby at_101) rfl) ?_
          show Go p e below s n0 _ _ _ (TJ111.setTop (mkF m 103 #[.val (.long q), .second, .val (.int br), .val (.int cr), .val (.int fl), .val (.long (q % (9223372036852 : Int64))), .second, .val (.int bv), .val (.int cv), .val (.long ((bv.toInt64 * (1000 : Int64)) + cv.toInt64)), .second, .val (.long sm), .second, .val (.long (((q % (9223372036852 : Int64)) * (1000000 : Int64)) + sm)), .second, .unset] [(.int bv)]))
          refine Go.if_eq C XJ111 (pc' := 114) at_103 (by decide) (by decide) (fun hc103_116 => ?_) (fun hc103_116 => ?_)
          · show Go p e below s n0 _ _ _ (TJ111.setTop (mkF m 114 #[.val (.long q), .second, .val (.int br), .val (.int cr), .val (.int fl), .val (.long (q % (9223372036852 : Int64))), .second, .val (.int bv), .val (.int cv), .val (.long ((bv.toInt64 * (1000 : Int64)) + cv.toInt64)), .second, .val (.long sm), .second, .val (.long (((q % (9223372036852 : Int64)) * (1000000 : Int64)) + sm)), .second, .unset] []))
            refine Go.getS C XJ111 (wd 13 rfl) S_am at_114 (fun T117 X117 => ?_)
            show Go p e below s n0 _ _ _ (T117.setTop (mkF m 117 #[.val (.long q), .second, .val (.int br), .val (.int cr), .val (.int fl), .val (.long (q % (9223372036852 : Int64))), .second, .val (.int bv), .val (.int cv), .val (.long ((bv.toInt64 * (1000 : Int64)) + cv.toInt64)), .second, .val (.long sm), .second, .val (.long (((q % (9223372036852 : Int64)) * (1000000 : Int64)) + sm)), .second, .unset] [(.ref am)]))
            refine Go.st (fun _ => XS.astore X117.here C.hx rfl (hb C.hby at_117) rfl rfl (l' := #[.val (.long q), .second, .val (.int br), .val (.int cr), .val (.int fl), .val (.long (q % (9223372036852 : Int64))), .second, .val (.int bv), .val (.int cv), .val (.long ((bv.toInt64 * (1000 : Int64)) + cv.toInt64)), .second, .val (.long sm), .second, .val (.long (((q % (9223372036852 : Int64)) * (1000000 : Int64)) + sm)), .second, .val (.ref am)]) rfl) ?_
            show Go p e below s n0 _ _ _ (T117.setTop (mkF m 119 #[.val (.long q), .second, .val (.int br), .val (.int cr), .val (.int fl), .val (.long (q % (9223372036852 : Int64))), .second, .val (.int bv), .val (.int cv), .val (.long ((bv.toInt64 * (1000 : Int64)) + cv.toInt64)), .second, .val (.long sm), .second, .val (.long (((q % (9223372036852 : Int64)) * (1000000 : Int64)) + sm)), .second, .val (.ref am)] []))
            exact J113 T117 am X117 (by simp [hc90_112, hc103_116])
          · show Go p e below s n0 _ _ _ (TJ111.setTop (mkF m 106 #[.val (.long q), .second, .val (.int br), .val (.int cr), .val (.int fl), .val (.long (q % (9223372036852 : Int64))), .second, .val (.int bv), .val (.int cv), .val (.long ((bv.toInt64 * (1000 : Int64)) + cv.toInt64)), .second, .val (.long sm), .second, .val (.long (((q % (9223372036852 : Int64)) * (1000000 : Int64)) + sm)), .second, .unset] []))
            refine Go.getS C XJ111 (wd 16 rfl) S_au at_106 (fun T118 X118 => ?_)
            show Go p e below s n0 _ _ _ (T118.setTop (mkF m 109 #[.val (.long q), .second, .val (.int br), .val (.int cr), .val (.int fl), .val (.long (q % (9223372036852 : Int64))), .second, .val (.int bv), .val (.int cv), .val (.long ((bv.toInt64 * (1000 : Int64)) + cv.toInt64)), .second, .val (.long sm), .second, .val (.long (((q % (9223372036852 : Int64)) * (1000000 : Int64)) + sm)), .second, .unset] [(.ref au)]))
            refine Go.st (fun _ => XS.astore X118.here C.hx rfl (hb C.hby at_109) rfl rfl (l' := #[.val (.long q), .second, .val (.int br), .val (.int cr), .val (.int fl), .val (.long (q % (9223372036852 : Int64))), .second, .val (.int bv), .val (.int cv), .val (.long ((bv.toInt64 * (1000 : Int64)) + cv.toInt64)), .second, .val (.long sm), .second, .val (.long (((q % (9223372036852 : Int64)) * (1000000 : Int64)) + sm)), .second, .val (.ref au)]) rfl) ?_
            show Go p e below s n0 _ _ _ (T118.setTop (mkF m 111 #[.val (.long q), .second, .val (.int br), .val (.int cr), .val (.int fl), .val (.long (q % (9223372036852 : Int64))), .second, .val (.int bv), .val (.int cv), .val (.long ((bv.toInt64 * (1000 : Int64)) + cv.toInt64)), .second, .val (.long sm), .second, .val (.long (((q % (9223372036852 : Int64)) * (1000000 : Int64)) + sm)), .second, .val (.ref au)] []))
            refine Go.st (fun _ => XS.goto X118.here C.hx rfl (pc0 := 111) (pc' := 119) rfl (hb C.hby at_111) (by decide) (by decide)) ?_
            show Go p e below s n0 _ _ _ (T118.setTop (mkF m 119 #[.val (.long q), .second, .val (.int br), .val (.int cr), .val (.int fl), .val (.long (q % (9223372036852 : Int64))), .second, .val (.int bv), .val (.int cv), .val (.long ((bv.toInt64 * (1000 : Int64)) + cv.toInt64)), .second, .val (.long sm), .second, .val (.long (((q % (9223372036852 : Int64)) * (1000000 : Int64)) + sm)), .second, .val (.ref au)] []))
            exact J113 T118 au X118 (by simp [hc90_112, hc103_116])
        · show Go p e below s n0 _ _ _ (TJ111.setTop (mkF m 93 #[.val (.long q), .second, .val (.int br), .val (.int cr), .val (.int fl), .val (.long (q % (9223372036852 : Int64))), .second, .val (.int bv), .val (.int cv), .val (.long ((bv.toInt64 * (1000 : Int64)) + cv.toInt64)), .second, .val (.long sm), .second, .val (.long (((q % (9223372036852 : Int64)) * (1000000 : Int64)) + sm)), .second, .unset] []))
          refine Go.getS C XJ111 (wd 4 rfl) S_an at_93 (fun T119 X119 => ?_)
          show Go p e below s n0 _ _ _ (T119.setTop (mkF m 96 #[.val (.long q), .second, .val (.int br), .val (.int cr), .val (.int fl), .val (.long (q % (9223372036852 : Int64))), .second, .val (.int bv), .val (.int cv), .val (.long ((bv.toInt64 * (1000 : Int64)) + cv.toInt64)), .second, .val (.long sm), .second, .val (.long (((q % (9223372036852 : Int64)) * (1000000 : Int64)) + sm)), .second, .unset] [(.ref an)]))
          refine Go.st (fun _ => XS.astore X119.here C.hx rfl (hb C.hby at_96) rfl rfl (l' := #[.val (.long q), .second, .val (.int br), .val (.int cr), .val (.int fl), .val (.long (q % (9223372036852 : Int64))), .second, .val (.int bv), .val (.int cv), .val (.long ((bv.toInt64 * (1000 : Int64)) + cv.toInt64)), .second, .val (.long sm), .second, .val (.long (((q % (9223372036852 : Int64)) * (1000000 : Int64)) + sm)), .second, .val (.ref an)]) rfl) ?_
          show Go p e below s n0 _ _ _ (T119.setTop (mkF m 98 #[.val (.long q), .second, .val (.int br), .val (.int cr), .val (.int fl), .val (.long (q % (9223372036852 : Int64))), .second, .val (.int bv), .val (.int cv), .val (.long ((bv.toInt64 * (1000 : Int64)) + cv.toInt64)), .second, .val (.long sm), .second, .val (.long (((q % (9223372036852 : Int64)) * (1000000 : Int64)) + sm)), .second, .val (.ref an)] []))
          refine Go.st (fun _ => XS.goto X119.here C.hx rfl (pc0 := 98) (pc' := 119) rfl (hb C.hby at_98) (by decide) (by decide)) ?_
          show Go p e below s n0 _ _ _ (T119.setTop (mkF m 119 #[.val (.long q), .second, .val (.int br), .val (.int cr), .val (.int fl), .val (.long (q % (9223372036852 : Int64))), .second, .val (.int bv), .val (.int cv), .val (.long ((bv.toInt64 * (1000 : Int64)) + cv.toInt64)), .second, .val (.long sm), .second, .val (.long (((q % (9223372036852 : Int64)) * (1000000 : Int64)) + sm)), .second, .val (.ref an)] []))
          exact J113 T119 an X119 (by simp [hc90_112])
      refine Go.if_eq C XJ109 (pc' := 73) at_64 (by decide) (by decide) (fun hc64_110 => ?_) (fun hc64_110 => ?_)
      · show Go p e below s n0 _ _ _ (TJ109.setTop (mkF m 73 #[.val (.long q), .second, .val (.int br), .val (.int cr), .val (.int fl), .val (.long (q % (9223372036852 : Int64))), .second, .val (.int bv), .val (.int cv), .val (.long ((bv.toInt64 * (1000 : Int64)) + cv.toInt64)), .second, .unset, .unset, .unset, .unset, .unset] []))
        refine Go.st (fun _ => XS.lload XJ109.here C.hx rfl (hb C.hby at_73) rfl) ?_
        show Go p e below s n0 _ _ _ (TJ109.setTop (mkF m 75 #[.val (.long q), .second, .val (.int br), .val (.int cr), .val (.int fl), .val (.long (q % (9223372036852 : Int64))), .second, .val (.int bv), .val (.int cv), .val (.long ((bv.toInt64 * (1000 : Int64)) + cv.toInt64)), .second, .unset, .unset, .unset, .unset, .unset] [(.long ((bv.toInt64 * (1000 : Int64)) + cv.toInt64))]))
        exact J111 TJ109 ((bv.toInt64 * (1000 : Int64)) + cv.toInt64) XJ109 (Or.inr rfl)
      · show Go p e below s n0 _ _ _ (TJ109.setTop (mkF m 67 #[.val (.long q), .second, .val (.int br), .val (.int cr), .val (.int fl), .val (.long (q % (9223372036852 : Int64))), .second, .val (.int bv), .val (.int cv), .val (.long ((bv.toInt64 * (1000 : Int64)) + cv.toInt64)), .second, .unset, .unset, .unset, .unset, .unset] []))
        refine Go.st (fun _ => XS.lload XJ109.here C.hx rfl (hb C.hby at_67) rfl) ?_
        show Go p e below s n0 _ _ _ (TJ109.setTop (mkF m 69 #[.val (.long q), .second, .val (.int br), .val (.int cr), .val (.int fl), .val (.long (q % (9223372036852 : Int64))), .second, .val (.int bv), .val (.int cv), .val (.long ((bv.toInt64 * (1000 : Int64)) + cv.toInt64)), .second, .unset, .unset, .unset, .unset, .unset] [(.long ((bv.toInt64 * (1000 : Int64)) + cv.toInt64))]))
        refine Go.st (fun _ => XS.lneg XJ109.here C.hx rfl (hb C.hby at_69) rfl) ?_
        show Go p e below s n0 _ _ _ (TJ109.setTop (mkF m 70 #[.val (.long q), .second, .val (.int br), .val (.int cr), .val (.int fl), .val (.long (q % (9223372036852 : Int64))), .second, .val (.int bv), .val (.int cv), .val (.long ((bv.toInt64 * (1000 : Int64)) + cv.toInt64)), .second, .unset, .unset, .unset, .unset, .unset] [(.long (-((bv.toInt64 * (1000 : Int64)) + cv.toInt64)))]))
        refine Go.st (fun _ => XS.goto XJ109.here C.hx rfl (pc0 := 70) (pc' := 75) rfl (hb C.hby at_70) (by decide) (by decide)) ?_
        show Go p e below s n0 _ _ _ (TJ109.setTop (mkF m 75 #[.val (.long q), .second, .val (.int br), .val (.int cr), .val (.int fl), .val (.long (q % (9223372036852 : Int64))), .second, .val (.int bv), .val (.int cv), .val (.long ((bv.toInt64 * (1000 : Int64)) + cv.toInt64)), .second, .unset, .unset, .unset, .unset, .unset] [(.long (-((bv.toInt64 * (1000 : Int64)) + cv.toInt64)))]))
        exact J111 TJ109 (-((bv.toInt64 * (1000 : Int64)) + cv.toInt64)) XJ109 (Or.inl rfl)
    refine Go.if_eq C XJ107 (pc' := 47) at_41 (by decide) (by decide) (fun hc41_108 => ?_) (fun hc41_108 => ?_)
    · show Go p e below s n0 _ _ _ (TJ107.setTop (mkF m 47 #[.val (.long q), .second, .val (.int br), .val (.int cr), .val (.int fl), .val (.long (q % (9223372036852 : Int64))), .second, .val (.int bv), .val (.int ((cr &&& (2147483647 : Int32)) % (1000 : Int32))), .unset, .unset, .unset, .unset, .unset, .unset, .unset] []))
      exact J109 TJ107 ((cr &&& (2147483647 : Int32)) % (1000 : Int32)) XJ107 (mod1000 cr)
    · show Go p e below s n0 _ _ _ (TJ107.setTop (mkF m 44 #[.val (.long q), .second, .val (.int br), .val (.int cr), .val (.int fl), .val (.long (q % (9223372036852 : Int64))), .second, .val (.int bv), .val (.int ((cr &&& (2147483647 : Int32)) % (1000 : Int32))), .unset, .unset, .unset, .unset, .unset, .unset, .unset] []))
      refine Go.st (fun _ => XS.iconst XJ107.here C.hx rfl (hb C.hby at_44)) ?_
      show Go p e below s n0 _ _ _ (TJ107.setTop (mkF m 45 #[.val (.long q), .second, .val (.int br), .val (.int cr), .val (.int fl), .val (.long (q % (9223372036852 : Int64))), .second, .val (.int bv), .val (.int ((cr &&& (2147483647 : Int32)) % (1000 : Int32))), .unset, .unset, .unset, .unset, .unset, .unset, .unset] [(.int (0 : Int32))]))
      refine Go.st (fun _ => XS.istore XJ107.here C.hx rfl (hb C.hby at_45) rfl (l' := #[.val (.long q), .second, .val (.int br), .val (.int cr), .val (.int fl), .val (.long (q % (9223372036852 : Int64))), .second, .val (.int bv), .val (.int (0 : Int32)), .unset, .unset, .unset, .unset, .unset, .unset, .unset]) rfl) ?_
      show Go p e below s n0 _ _ _ (TJ107.setTop (mkF m 47 #[.val (.long q), .second, .val (.int br), .val (.int cr), .val (.int fl), .val (.long (q % (9223372036852 : Int64))), .second, .val (.int bv), .val (.int (0 : Int32)), .unset, .unset, .unset, .unset, .unset, .unset, .unset] []))
      exact J109 TJ107 (0 : Int32) XJ107 (zero1000)
  refine Go.if_eq C X0 (pc' := 27) at_21 (by decide) (by decide) (fun hc21_106 => ?_) (fun hc21_106 => ?_)
  · show Go p e below s n0 _ _ _ (T0.setTop (mkF m 27 #[.val (.long q), .second, .val (.int br), .val (.int cr), .val (.int fl), .val (.long (q % (9223372036852 : Int64))), .second, .val (.int ((br &&& (2147483647 : Int32)) % (1000 : Int32))), .unset, .unset, .unset, .unset, .unset, .unset, .unset, .unset] []))
    exact J107 T0 ((br &&& (2147483647 : Int32)) % (1000 : Int32)) X0 (mod1000 br)
  · show Go p e below s n0 _ _ _ (T0.setTop (mkF m 24 #[.val (.long q), .second, .val (.int br), .val (.int cr), .val (.int fl), .val (.long (q % (9223372036852 : Int64))), .second, .val (.int ((br &&& (2147483647 : Int32)) % (1000 : Int32))), .unset, .unset, .unset, .unset, .unset, .unset, .unset, .unset] []))
    refine Go.st (fun _ => XS.iconst X0.here C.hx rfl (hb C.hby at_24)) ?_
    show Go p e below s n0 _ _ _ (T0.setTop (mkF m 25 #[.val (.long q), .second, .val (.int br), .val (.int cr), .val (.int fl), .val (.long (q % (9223372036852 : Int64))), .second, .val (.int ((br &&& (2147483647 : Int32)) % (1000 : Int32))), .unset, .unset, .unset, .unset, .unset, .unset, .unset, .unset] [(.int (0 : Int32))]))
    refine Go.st (fun _ => XS.istore X0.here C.hx rfl (hb C.hby at_25) rfl (l' := #[.val (.long q), .second, .val (.int br), .val (.int cr), .val (.int fl), .val (.long (q % (9223372036852 : Int64))), .second, .val (.int (0 : Int32)), .unset, .unset, .unset, .unset, .unset, .unset, .unset, .unset]) rfl) ?_
    show Go p e below s n0 _ _ _ (T0.setTop (mkF m 27 #[.val (.long q), .second, .val (.int br), .val (.int cr), .val (.int fl), .val (.long (q % (9223372036852 : Int64))), .second, .val (.int (0 : Int32)), .unset, .unset, .unset, .unset, .unset, .unset, .unset, .unset] []))
    exact J107 T0 (0 : Int32) X0 (zero1000)
set_option maxRecDepth 65536 in
set_option maxHeartbeats 40000000 in
theorem comes_1 {Post : Tables → Env → Array Value → State → Outcome → State → Prop} (hpost : ∀ tb e args s v u, (limb_1_1.after args s (.returned v) u = true ∧ limb_1_2.after args s (.returned v) u = true ∧ True) → FrameEnd s (.returned v) u (Jvm.fieldLocs frame_1_writes args s ++ Jvm.arrayLocs frame_1_arrays args s ++ Jvm.staticLocs frame_1_statics s) 0 0 → Post tb e args s (.returned v) u) :
    ArmFor flags0 classFile x code maxLocals ret World_1 tables_1 room_1 Calls_1 rest_1 Pre_1 Post := by
  intro l hfl _ _ p e ha hc hk s m args below hf hA hF happ hP
  obtain ⟨hcalls, hrest, hpre⟩ := hP
  obtain ⟨-, -, -, hnamed, -, -, -, hat⟩ := (Spec.applies_iff hf).mp happ
  obtain ⟨hg, hn⟩ := and_e (Cond.before_iff.mp (show (Jvm.Cond.and given_1 narrow_1).before args s = true from hpre))
  obtain ⟨h1, hr0⟩ := and_e hg
  obtain ⟨ha0, hr1⟩ := and_e hr0
  obtain ⟨ha1, hr2⟩ := and_e hr1
  obtain ⟨ha2, hr3⟩ := and_e hr2
  have ha3 := hr3
  obtain ⟨w0, w1, w2, w3, rfl⟩ : ∃ w0 w1 w2 w3 : Value, args = #[w0, w1, w2, w3] := by
    have hs : args.size = 4 := by simpa [Cond.value, given_1] using h1
    obtain ⟨L⟩ := args
    match L, hs with
    | [w0, w1, w2, w3], _ => exact ⟨w0, w1, w2, w3, rfl⟩
  have hw := fun d (hd : d ∈ tables_1) => atoms_spec (ws := Jvm.Cond.code x code maxLocals ret :: tables_1) hat d (List.mem_cons_of_mem _ hd)
  obtain ⟨i0, e0⟩ := isL_v ha0
  obtain rfl : w0 = (.long i0) := Option.some.inj e0
  obtain ⟨i1, e1⟩ := is_v ha1
  obtain rfl : w1 = (.int i1) := Option.some.inj e1
  obtain ⟨i2, e2⟩ := is_v ha2
  obtain rfl : w2 = (.int i2) := Option.some.inj e2
  obtain ⟨i3, e3⟩ := is_v ha3
  obtain rfl : w3 = (.int i3) := Option.some.inj e3
  obtain ⟨n1, n2⟩ := and_e hn
  obtain ⟨n3, n4⟩ := and_e n2
  obtain ⟨an, e_an⟩ := exa_v n1
  have S_an : Sta s s.heap "com/example/vitruvius/vitruvius/profile/TimePrecision" "NANOSECOND" "Lcom/example/vitruvius/vitruvius/profile/TimePrecision;" (.ref an) := Sta.start e_an (Or.inr ⟨hw _ (wd 5 rfl), hw _ (wd 6 rfl)⟩)
  obtain ⟨am, e_am⟩ := exa_v n3
  have S_am : Sta s s.heap "com/example/vitruvius/vitruvius/profile/TimePrecision" "MILLISECOND" "Lcom/example/vitruvius/vitruvius/profile/TimePrecision;" (.ref am) := Sta.start e_am (Or.inr ⟨hw _ (wd 5 rfl), hw _ (wd 14 rfl)⟩)
  obtain ⟨au, e_au⟩ := exa_v n4
  have S_au : Sta s s.heap "com/example/vitruvius/vitruvius/profile/TimePrecision" "MICROSECOND" "Lcom/example/vitruvius/vitruvius/profile/TimePrecision;" (.ref au) := Sta.start e_au (Or.inr ⟨hw _ (wd 5 rfl), hw _ (wd 17 rfl)⟩)
  obtain ⟨n, o, h1, h2, h3, _, L, rfl, ⟨rfl, N⟩, hq⟩ := con_law l s _ hw s.heap.size s.heap (Nat.le_refl _) i0 i1 i2 i3 am au an S_am S_au S_an p e ha hc hk s m _ below hf ((Spec.applies_iff_loose hf).mp happ).1 ⟨rfl, State.Warmed39.refl s, rfl⟩ trivial
  refine ⟨n, _, h1, h2, h3, hpost _ _ _ _ _ _ ⟨Cond.after_iff.mpr rfl, Cond.after_iff.mpr (eq_i res_at (Term.int_eval (1)) rfl), trivial⟩ ⟨hq.1, hq.2.1, (hq.2.2.sift fun y hy => Or.inr (N y hy)).mono (by decide) (by decide)⟩⟩
theorem main_1_1 : Claimed_1_1 := comes_1 fun _ _ _ _ _ _ h hF => ⟨h.1, hF⟩
theorem main_1_2 : Claimed_1_2 := comes_1 fun _ _ _ _ _ _ h hF => ⟨h.2.1, hF⟩
end Jvm.Pilot.@@N@@
namespace Jvm.Pilot.@@N@@
open Jvm Jvm.ClassFile Sem Op Lib Jvm.Free Jvm.Stand Jvm.Pilot.@@N@@.Jvm.D
/-! MADE BY PROGRAM (witnessworld.py) out of the Statement's table words and the real class files: 12 classes; the members and pool entries that the words name. The judged class is class 1, her method 1. -/
namespace start1
open Jvm.ClassFile
def u (s : String) : CpInfo := .utf8 (stringToUtf16 s)
/-- a pool by its gaps: so many unusable entries, then the entry; so many at the end -/
def gap : Nat → List CpInfo → List CpInfo
  | 0, r => r
  | n + 1, r => .unusable :: gap n r
def poolList (es : List (Nat × CpInfo)) (last : Nat) : List CpInfo := es.foldr (fun e r => gap e.1 (e.2 :: r)) (gap last [])
def pool (es : List (Nat × CpInfo)) (last : Nat) : Array CpInfo := ⟨poolList es last⟩
def fileOf (pool : Array CpInfo) (this : Nat) (attrs : Array Attribute := #[]) (ms : Array MethodInfo := #[]) (fl : Nat := 33) (sup : Nat := 0) (ifs : Array Nat := #[]) (fds : Array FieldInfo := #[]) : ClassFile where
  minorVersion := 0
  majorVersion := 65
  constantPool := pool
  accessFlags := fl
  thisClass := this
  superClass := sup
  interfaces := ifs
  fields := fds
  methods := ms
  attributes := attrs
def plain (name : String) (sup : Option ClassId) : Class where
  name := name
  kind := .ordinary
  loader := none
  accessFlags := 33
  super := sup
  interfaces := #[]
  cf := none
  fields := #[]
  methods := #[]
  instanceTypes := #[]
  staticTypes := #[]
  resolved := #[]
  callSites := []
  init := .initialized
  statics := none
  mirror := none

def pool0 : Array CpInfo := pool [(5, u "<init>"), (0, u "()V"), (1, .class_ 10), (1, u "java/lang/Object")] 113

def k0m0 : Method := { name := "<init>", desc := "()V", sig := { parameters := [], returnType := none }, accessFlags := 1, code := none }
/-- java/lang/Object -/
def k0 : Class := { plain "java/lang/Object" none with
  accessFlags := 33
  interfaces := #[]
  cf := some (fileOf pool0 8 #[] #[{ accessFlags := 1, nameIndex := 5, descriptorIndex := 6, attributes := #[] }] 33 0 #[] #[])
  fields := #[]
  methods := #[k0m0]
  instanceTypes := #[]
  staticTypes := #[]
  resolved := Array.replicate 124 none
  statics := none }

def pool1 : Array CpInfo := pool [(2, .class_ 4), (1, u "java/lang/Object"), (0, u "<init>"), (0, u "()V"), (0, .long 9223372036852), (1, .integer 2147483647), (0, .long 1000), (1, .long 1000000), (1, .fieldref 15 16), (0, .class_ 17), (0, .nameAndType 18 19), (0, u "com/example/vitruvius/vitruvius/profile/TimePrecision"), (0, u "NANOSECOND"), (0, u "Lcom/example/vitruvius/vitruvius/profile/TimePrecision;"), (0, .fieldref 15 21), (0, .nameAndType 22 19), (0, u "MICROSECOND"), (0, .fieldref 15 24), (0, .nameAndType 25 19), (0, u "MILLISECOND"), (0, .methodref 15 27), (0, .nameAndType 28 29), (0, u "of"), (0, u "(J)Lcom/example/vitruvius/vitruvius/profile/TimePrecision;"), (0, .class_ 31), (0, u "com/example/vitruvius/vitruvius/profile/TimePrecisionOfPinLaw"), (2, u "law"), (0, u "(JIII)Z")] 3

def k1m0 : Method := { name := "<init>", desc := "()V", sig := { parameters := [], returnType := none }, accessFlags := 1, code := none }
def k1c1 : Code := { maxStack := 4, maxLocals := 16, code := code, exceptionTable := #[], attributes := #[] }
def k1m1 : Method := { name := "law", desc := "(JIII)Z", sig := { parameters := [.long, .int, .int, .int], returnType := some .boolean }, accessFlags := 9, code := some k1c1 }
/-- com/example/vitruvius/vitruvius/profile/TimePrecisionOfPinLaw -/
def k1 : Class := { plain "com/example/vitruvius/vitruvius/profile/TimePrecisionOfPinLaw" (some 0) with
  accessFlags := 49
  interfaces := #[]
  cf := some (fileOf pool1 30 #[] #[{ accessFlags := 1, nameIndex := 5, descriptorIndex := 6, attributes := #[] }, { accessFlags := 9, nameIndex := 34, descriptorIndex := 35, attributes := #[] }] 49 2 #[] #[])
  fields := #[]
  methods := #[k1m0, k1m1]
  instanceTypes := #[]
  staticTypes := #[]
  resolved := Array.replicate 39 none
  statics := none }

def pool2 : Array CpInfo := pool [(1, .class_ 2), (0, u "java/lang/constant/Constable"), (0, .class_ 4), (0, u "java/lang/Object")] 6

/-- java/lang/constant/Constable -/
def k2 : Class := { plain "java/lang/constant/Constable" (some 0) with
  accessFlags := 1537
  interfaces := #[]
  cf := some (fileOf pool2 1 #[] #[] 1537 3 #[] #[])
  fields := #[]
  methods := #[]
  instanceTypes := #[]
  staticTypes := #[]
  resolved := Array.replicate 11 none
  statics := none }

def pool3 : Array CpInfo := pool [(1, .class_ 2), (0, u "java/lang/Comparable"), (0, .class_ 4), (0, u "java/lang/Object")] 7

/-- java/lang/Comparable -/
def k3 : Class := { plain "java/lang/Comparable" (some 0) with
  accessFlags := 1537
  interfaces := #[]
  cf := some (fileOf pool3 1 #[] #[] 1537 3 #[] #[])
  fields := #[]
  methods := #[]
  instanceTypes := #[]
  staticTypes := #[]
  resolved := Array.replicate 12 none
  statics := none }

def pool4 : Array CpInfo := pool [(1, .class_ 2), (0, u "java/io/Serializable"), (0, .class_ 4), (0, u "java/lang/Object")] 2

/-- java/io/Serializable -/
def k4 : Class := { plain "java/io/Serializable" (some 0) with
  accessFlags := 1537
  interfaces := #[]
  cf := some (fileOf pool4 1 #[] #[] 1537 3 #[] #[])
  fields := #[]
  methods := #[]
  instanceTypes := #[]
  staticTypes := #[]
  resolved := Array.replicate 7 none
  statics := none }

def pool5 : Array CpInfo := pool [(2, .class_ 4), (1, u "java/lang/Enum"), (0, u "name"), (0, u "Ljava/lang/String;"), (2, u "ordinal"), (0, u "I"), (1, .class_ 14), (1, u "java/lang/Object"), (4, u "hash"), (86, .class_ 108), (1, u "java/lang/Enum$EnumDesc"), (2, .class_ 112), (0, u "java/lang/constant/Constable"), (0, .class_ 114), (0, u "java/lang/Comparable"), (0, .class_ 116), (0, u "java/io/Serializable")] 87

/-- java/lang/Enum -/
def k5 : Class := { plain "java/lang/Enum" (some 0) with
  accessFlags := 1057
  interfaces := #[2, 3, 4]
  cf := some (fileOf pool5 2 #[.nestMembers #[106]] #[] 1057 12 #[111, 113, 115] #[{ accessFlags := 18, nameIndex := 5, descriptorIndex := 6, attributes := #[] }, { accessFlags := 18, nameIndex := 9, descriptorIndex := 10, attributes := #[] }, { accessFlags := 2, nameIndex := 19, descriptorIndex := 10, attributes := #[] }])
  fields := #[{ name := "name", type := (.object "java/lang/String"), accessFlags := 18, slot := 0, constantValue := 0 }, { name := "ordinal", type := .int, accessFlags := 18, slot := 1, constantValue := 0 }, { name := "hash", type := .int, accessFlags := 2, slot := 2, constantValue := 0 }]
  methods := #[]
  instanceTypes := #[(.object "java/lang/String"), .int, .int]
  staticTypes := #[]
  resolved := Array.replicate 204 none
  statics := none }

def pool6 : Array CpInfo := pool [(1, .class_ 2), (0, u "com/example/vitruvius/vitruvius/profile/TimePrecision"), (0, .fieldref 1 4), (0, .nameAndType 5 6), (0, u "MILLISECOND"), (0, u "Lcom/example/vitruvius/vitruvius/profile/TimePrecision;"), (0, .fieldref 1 8), (0, .nameAndType 9 6), (0, u "MICROSECOND"), (0, .fieldref 1 11), (0, .nameAndType 12 6), (0, u "NANOSECOND"), (2, u "$VALUES"), (0, u "[Lcom/example/vitruvius/vitruvius/profile/TimePrecision;"), (6, .class_ 25), (1, u "java/lang/Enum"), (6, .long 1000000), (1, .long 1000), (46, u "NANOS_PER_MICRO"), (0, u "I"), (2, u "NANOS_PER_MILLI"), (8, u "of"), (0, u "(J)Lcom/example/vitruvius/vitruvius/profile/TimePrecision;")] 12

def k6c0 : Code := { maxStack := 4, maxLocals := 3, code := prog_64_method_4_code, exceptionTable := #[], attributes := #[] }
def k6m0 : Method := { name := "of", desc := "(J)Lcom/example/vitruvius/vitruvius/profile/TimePrecision;", sig := { parameters := [.long], returnType := some (.object "com/example/vitruvius/vitruvius/profile/TimePrecision") }, accessFlags := 9, code := some k6c0 }
/-- com/example/vitruvius/vitruvius/profile/TimePrecision -/
def k6 : Class := { plain "com/example/vitruvius/vitruvius/profile/TimePrecision" (some 5) with
  accessFlags := 16433
  interfaces := #[]
  cf := some (fileOf pool6 1 #[] #[{ accessFlags := 9, nameIndex := 94, descriptorIndex := 95, attributes := #[] }] 16433 23 #[] #[{ accessFlags := 16409, nameIndex := 5, descriptorIndex := 6, attributes := #[] }, { accessFlags := 16409, nameIndex := 9, descriptorIndex := 6, attributes := #[] }, { accessFlags := 16409, nameIndex := 12, descriptorIndex := 6, attributes := #[] }, { accessFlags := 26, nameIndex := 81, descriptorIndex := 82, attributes := #[] }, { accessFlags := 26, nameIndex := 85, descriptorIndex := 82, attributes := #[] }, { accessFlags := 4122, nameIndex := 15, descriptorIndex := 16, attributes := #[] }])
  fields := #[{ name := "MILLISECOND", type := (.object "com/example/vitruvius/vitruvius/profile/TimePrecision"), accessFlags := 16409, slot := 0, constantValue := 0 }, { name := "MICROSECOND", type := (.object "com/example/vitruvius/vitruvius/profile/TimePrecision"), accessFlags := 16409, slot := 1, constantValue := 0 }, { name := "NANOSECOND", type := (.object "com/example/vitruvius/vitruvius/profile/TimePrecision"), accessFlags := 16409, slot := 2, constantValue := 0 }, { name := "NANOS_PER_MICRO", type := .int, accessFlags := 26, slot := 3, constantValue := 0 }, { name := "NANOS_PER_MILLI", type := .int, accessFlags := 26, slot := 4, constantValue := 0 }, { name := "$VALUES", type := (.array (.object "com/example/vitruvius/vitruvius/profile/TimePrecision")), accessFlags := 4122, slot := 5, constantValue := 0 }]
  methods := #[k6m0]
  instanceTypes := #[(.object "java/lang/String"), .int, .int]
  staticTypes := #[(.object "com/example/vitruvius/vitruvius/profile/TimePrecision"), (.object "com/example/vitruvius/vitruvius/profile/TimePrecision"), (.object "com/example/vitruvius/vitruvius/profile/TimePrecision"), .int, .int, (.array (.object "com/example/vitruvius/vitruvius/profile/TimePrecision"))]
  resolved := Array.replicate 108 none
  statics := some 0 }

def pool7 : Array CpInfo := pool [(1, u "java/lang/Cloneable"), (0, .class_ 1), (0, u "java/lang/Object"), (0, .class_ 3)] 3

/-- java/lang/Cloneable -/
def k7 : Class := { plain "java/lang/Cloneable" (some 0) with
  accessFlags := 1537
  interfaces := #[]
  cf := some (fileOf pool7 2 #[] #[] 1537 4 #[] #[])
  fields := #[]
  methods := #[]
  instanceTypes := #[]
  staticTypes := #[]
  resolved := Array.replicate 8 none
  statics := none }

/-- the primitive byte -/
def k8 : Class := { plain "byte" none with kind := .primitive 'B', accessFlags := 0x411 }
/-- [B -/
def k9 : Class := { plain "[B" (some 0) with kind := .array 8 .byte, interfaces := #[7, 4], accessFlags := 1041 }

/-- the primitive int -/
def k10 : Class := { plain "int" none with kind := .primitive 'I', accessFlags := 0x411 }
/-- [I -/
def k11 : Class := { plain "[I" (some 0) with kind := .array 10 .int, interfaces := #[7, 4], accessFlags := 1041 }

def heap : Heap := #[{ cls := 6, slots := #[.ref 1, .ref 2, .ref 3, .int 0, .int 0, .null], vm := .statics 6 },
  { cls := 6, slots := #[.null, .int 0, .int 0], vm := .none },
  { cls := 6, slots := #[.null, .int 1, .int 0], vm := .none },
  { cls := 6, slots := #[.null, .int 2, .int 0], vm := .none }]
def classes : Array Class := #[k0, k1, k2, k3, k4, k5, k6, k7, k8, k9, k10, k11]
def interned : List (Array UInt16 × Addr) := []
def slotsUsed : Nat := 15
def theMethod : MethodId := ⟨1, 1⟩
def args0 : Array Value := #[.long 5, .int 3, .int 4, .int 0]
def aboutOver (below : List Frame) : State where
  vm := { classes := classes, interned := interned.toArray }
  heap := heap
  slotsUsed := slotsUsed
  threads := #[{ frames := .invoking theMethod args0 :: below }]
def below0 : List Frame := [.native { method := ⟨0, 0⟩, args := #[] }]
def about1 : State := aboutOver below0
def p0 : Program := .bare "" "" ""
def e0 : Env := launch0.env 0 0 0
theorem w_frames : about1.frames = Frame.invoking theMethod args0 :: below0 := rfl
set_option maxRecDepth 65536 in
theorem w_args : argsFit about1.vm theMethod args0 = true := by decide +kernel
set_option maxRecDepth 65536 in
theorem w_heap : heapFits about1 = true := by decide +kernel
set_option maxRecDepth 65536 in
theorem w_runnable : about1.curStatus? = some .runnable := by decide +kernel
set_option maxRecDepth 65536 in
theorem w_alone : about1.alone = true := by decide +kernel
set_option maxRecDepth 65536 in
theorem w_named : about1.methodNamed? x = some theMethod := by decide +kernel
set_option maxRecDepth 65536 in
theorem w_hears : about1.hears theMethod below0 = true := by decide +kernel
set_option maxRecDepth 65536 in
theorem w_ripe : about1.ripe theMethod args0 below0 = true := by decide +kernel
theorem w_running : about1.status = .running := rfl
set_option maxRecDepth 65536 in
theorem w_room : about1.hasRoom e0.platform room_1 = true :=
  launch0.hasRoom_least _ room_1 (by decide +kernel) (by decide +kernel) (by decide +kernel) (by decide +kernel) (by decide +kernel) (by decide +kernel)
theorem allAtoms_all (ts : List Jvm.Cond) (a : Array Jvm.Value) (st : Jvm.State) : (allAtoms ts).before a st = ts.all (fun c => c.before a st) := by
  induction ts with
  | nil => rfl
  | cons c t ih =>
    show (Jvm.Cond.and c (allAtoms t)).before a st = _
    rw [Jvm.Cond.before_and, ih, List.all_cons]
def words1 : List Jvm.Cond := Jvm.Cond.code x code maxLocals ret :: tables_1
/-- a 'code' word, met by the world's own term for the bytes: nothing is compared byte by byte -/
theorem code_word {y : MethodName} {bytes : ByteArray} {mx : Nat} {rt : Option FieldType} {a : Array Value} {s : State} {m : MethodId} {meth : Method} {c : Code} (h1 : s.methodNamed? y = some m) (h2 : s.vm.method? m = some meth) (h3 : meth.code = some c) (h4 : c.code = bytes)
    (h5 : (c.maxLocals == mx && c.exceptionTable.isEmpty && decide (c.maxStack ≤ mostOperands) && decide (meth.sig.returnType = rt) && !meth.locks && decide (parseMethodDescriptor y.desc = some meth.sig)) = true) : (Jvm.Cond.code y bytes mx rt).before a s = true := by
  simp only [Bool.and_eq_true, beq_iff_eq, Bool.not_eq_true', decide_eq_true_eq] at h5
  obtain ⟨⟨⟨⟨⟨g1, g2⟩, g3⟩, g4⟩, g5⟩, g6⟩ := h5
  simp [Cond.before, Cond.holds, Cond.value, h1, h2, h3, h4, g1, g2, g3, g4, g5, g6]
def isCode : Jvm.Cond → Bool
  | .code _ _ _ _ => true
  | _ => false
theorem all_split {L : List Jvm.Cond} {P : Jvm.Cond → Bool} (h1 : L.all (fun c => isCode c || P c) = true) (h2 : ∀ c ∈ L.filter isCode, P c = true) : L.all P = true := by
  refine List.all_eq_true.mpr fun c hc => ?_
  have h := List.all_eq_true.mp h1 c hc
  rcases Bool.eq_false_or_eq_true (isCode c) with hi | hi
  · exact h2 c (List.mem_filter.mpr ⟨hc, hi⟩)
  · simpa [hi] using h
set_option maxRecDepth 65536 in
theorem w_c0 : (Jvm.Cond.code x code maxLocals ret).before args0 about1 = true := code_word (m := ⟨1, 1⟩) (meth := k1m1) (c := k1c1) (by decide +kernel) rfl rfl rfl (by decide +kernel)
set_option maxRecDepth 65536 in
theorem w_c1 : (Jvm.Cond.code ({ cls := "com/example/vitruvius/vitruvius/profile/TimePrecision", name := "of", desc := "(J)Lcom/example/vitruvius/vitruvius/profile/TimePrecision;" } : Jvm.MethodName) prog_64_method_4_code (3 : Nat) (Option.some (Jvm.ClassFile.FieldType.object "com/example/vitruvius/vitruvius/profile/TimePrecision"))).before args0 about1 = true := code_word (m := ⟨6, 0⟩) (meth := k6m0) (c := k6c0) (by decide +kernel) rfl rfl rfl (by decide +kernel)
def codes1 : List Jvm.Cond := [Jvm.Cond.code x code maxLocals ret, Jvm.Cond.code ({ cls := "com/example/vitruvius/vitruvius/profile/TimePrecision", name := "of", desc := "(J)Lcom/example/vitruvius/vitruvius/profile/TimePrecision;" } : Jvm.MethodName) prog_64_method_4_code (3 : Nat) (Option.some (Jvm.ClassFile.FieldType.object "com/example/vitruvius/vitruvius/profile/TimePrecision"))]
set_option maxRecDepth 65536 in
theorem codes_eq : words1.filter isCode = codes1 := rfl
theorem w_codes : ∀ c ∈ words1.filter isCode, c.before args0 about1 = true := by
  rw [codes_eq]
  intro c hc
  simp only [codes1, List.mem_cons, List.not_mem_nil, or_false] at hc
  rcases hc with rfl | rfl
  · exact w_c0
  · exact w_c1
set_option maxRecDepth 65536 in
theorem w_t1 : words1.all (fun c => isCode c || c.before args0 about1) = true := by decide +kernel
theorem w_tables : (allAtoms (Jvm.Cond.code x code maxLocals ret :: tables_1)).before args0 about1 = true := by
  rw [allAtoms_all]
  show words1.all (fun c => c.before args0 about1) = true
  refine all_split ?_ w_codes
  rw [w_t1]
set_option maxRecDepth 65536 in
theorem w_case : (Jvm.Cond.and given_1 narrow_1).before args0 about1 = true := by decide +kernel
theorem w_applies : (headSpec (Jvm.Cond.code x code maxLocals ret :: tables_1) room_1).applies x e0.platform about1 = true :=
  (Spec.applies_iff w_frames).mpr ⟨w_running, w_runnable, w_alone, w_named, w_hears, w_ripe, w_room, w_tables⟩
theorem atStart : AtStart classFile x code maxLocals ret World_1 tables_1 room_1 Calls_1 rest_1 Pre_1 launch0 p0 e0 about1 theMethod args0 below0 :=
  ⟨lists_1, trivial, launch0.admits_env _ _ _, launch0.least_env, fairChoices_fair.cas, fairChoices_fair.clock, w_frames, w_args, w_heap, w_applies, trivial, trivial, w_case⟩
end start1
theorem witness_1 : WitnessClaimed_1 := ⟨start1.p0, start1.e0, start1.about1, start1.theMethod, start1.args0, start1.below0, start1.atStart⟩
end Jvm.Pilot.@@N@@

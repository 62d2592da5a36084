import JvmDerived
import JvmDerived.Pilot.@@N@@Statement
import JvmDerived.Pilot.@@N@@Code
set_option linter.unusedVariables false
set_option linter.unusedSimpArgs false
namespace Jvm.OwnGo
open Jvm Jvm.ClassFile Sem Op Lib Jvm.Free Jvm.Stand Jvm.LawKit Jvm.RoadKit Bundle
/-- from A the invocation ends and returns what Q takes; what was written lies at n0 or above -/
def Go (p : Program) (e : Env) (below : List Frame) (s : State) (n0 k n : Nat) (Q : Option Value → Heap → Prop) (A : State) : Prop :=
  ∃ t o, Steps p.tables e below A t ∧ t.status = .running ∧ Ended t below o ∧ ∃ v L, o = .returned v ∧ (Q v t.heap ∧ Fr n0 L) ∧ FrameEnd s o t L k n
/-- what stays as it is through a walk -/
def Ctx (p : Program) (s : State) (m : MethodId) (meth : Method) (c : Code) (Z : State) (a0 : Array Value) (ws : List Jvm.Cond) (own nm : String) (bytes : ByteArray) (ml : Nat) (ret : Option FieldType) : Prop :=
  p.tables.exec = Jvm.exec ∧ Z.Warmed39 s.vm ∧ (∀ d ∈ ws, d.before a0 Z = true) ∧ s.vm.findClass own = some m.cls ∧ meth.name = nm ∧ c.code = bytes ∧ c.maxLocals = ml ∧ meth.sig.returnType = ret ∧ meth.locks = false
/-- where a walk stands -/
def St (p : Program) (l : Launch) (e : Env) (R : Room) (s : State) (m : MethodId) (args : Array Value) (below : List Frame) (meth : Method) (c : Code) (n0 : Nat) (T : State) (h : Heap) (cells slots : Nat) : Prop :=
  T.heap = h ∧ n0 ≤ s.heap.size ∧ ∃ locs, Fr n0 locs ∧ Stand p l e R s m args below meth c T locs cells slots
/-- an array: its elements, one by one -/
def AR (Z : State) (h : Heap) (a : Addr) (ty : FieldType) (vs : List Value) : Prop := ∃ c : Cell, Arr Z h a c ty ∧ c.slots = vs.toArray ∧ vs.length < 2 ^ 31
/-- a method's contract at one heap -/
def Con (l : Launch) (Z : State) (y : MethodName) (bytes : ByteArray) (ml : Nat) (ret : Option FieldType) (wx : List Jvm.Cond) (rm : Room) (n0 : Nat) (as : Array Value) (h0 : Heap) (Q : Option Value → Heap → Prop) : Prop :=
  MetFree l y (head1 (Jvm.Cond.code y bytes ml ret :: wx) rm) (fun a U => a = as ∧ Z.Warmed39 U.vm ∧ U.heap = h0) (fun _ _ _ _ _ => True) (fun _ U o U' => ∃ v L, o = .returned v ∧ (Q v U'.heap ∧ Fr n0 L) ∧ FrameEnd U o U' L rm.cells rm.slots)
section One
variable {p : Program} {l : Launch} {e : Env} {R : Room} {s : State} {m : MethodId} {args : Array Value} {below : List Frame} {meth : Method} {c : Code} {T : State} {h h' : Heap} {n0 cells slots k n : Nat} {Q : Option Value → Heap → Prop} {A B Z : State} {a0 : Array Value} {ws : List Jvm.Cond} {own nm : String} {bytes : ByteArray} {ml pc : Nat} {ret : Option FieldType} {Ls : Array Slot} {rest stk : List Value}
def ius (x y : Int32) : Int32 := (x.toUInt32 >>> (y &&& 31).toUInt32).toInt32
def lus (x : Int64) (y : Int32) : Int64 := (x.toUInt64 >>> (y &&& 0x3f).toInt64.toUInt64).toInt64
theorem tm0 (x d : Int) : x.tmod d = 0 ↔ x % d = 0 := ⟨fun h => Int.emod_eq_zero_of_dvd (Int.dvd_of_tmod_eq_zero h), fun h => Int.tmod_eq_zero_of_dvd (Int.dvd_of_emod_eq_zero h)⟩
theorem irr (x : Int32) : ¬ x < x := by rw [Int32.lt_iff_toInt_lt]; omega
theorem wd {ws : List Jvm.Cond} (i : Nat) {d : Jvm.Cond} (q : ws[i]? = some d) : d ∈ ws := List.mem_of_getElem? q
theorem Ctx.hx (C : Ctx p s m meth c Z a0 ws own nm bytes ml ret) : p.tables.exec = Jvm.exec := C.1
theorem Ctx.hZ (C : Ctx p s m meth c Z a0 ws own nm bytes ml ret) : Z.Warmed39 s.vm := C.2.1
theorem Ctx.w (C : Ctx p s m meth c Z a0 ws own nm bytes ml ret) {d : Jvm.Cond} (q : d ∈ ws) : d.before a0 Z = true := C.2.2.1 d q
theorem Ctx.hown (C : Ctx p s m meth c Z a0 ws own nm bytes ml ret) : s.vm.findClass own = some m.cls := C.2.2.2.1
theorem Ctx.hnm (C : Ctx p s m meth c Z a0 ws own nm bytes ml ret) : meth.name = nm := C.2.2.2.2.1
theorem Ctx.hby (C : Ctx p s m meth c Z a0 ws own nm bytes ml ret) : c.code = bytes := C.2.2.2.2.2.1
theorem Ctx.hml (C : Ctx p s m meth c Z a0 ws own nm bytes ml ret) : c.maxLocals = ml := C.2.2.2.2.2.2.1
theorem Ctx.hret (C : Ctx p s m meth c Z a0 ws own nm bytes ml ret) : meth.sig.returnType = ret := C.2.2.2.2.2.2.2.1
theorem Ctx.hlk (C : Ctx p s m meth c Z a0 ws own nm bytes ml ret) : meth.locks = false := C.2.2.2.2.2.2.2.2
theorem St.here (X : St p l e R s m args below meth c n0 T h cells slots) : At T m c below := by obtain ⟨-, -, _, -, X⟩ := X; exact X.here
theorem St.size (X : St p l e R s m args below meth c n0 T h cells slots) : n0 ≤ h.size := by
  obtain ⟨rfl, hz, _, -, X⟩ := X
  exact Nat.le_trans hz X.same.2.1
theorem St.mono (X : St p l e R s m args below meth c n0 T h cells slots) {cells' slots' : Nat} (h1 : cells ≤ cells') (h2 : slots ≤ slots') : St p l e R s m args below meth c n0 T h cells' slots' := by
  obtain ⟨e0, hz, locs, N, X⟩ := X
  exact ⟨e0, hz, locs, N, { X with same := X.same.mono h1 h2 }⟩
theorem Go.st (q : ∀ t, Steps p.tables e below B t → Steps p.tables e below A t) (g : Go p e below s n0 k n Q B) : Go p e below s n0 k n Q A := by
  obtain ⟨t, o, h1, r⟩ := g
  exact ⟨t, o, q t h1, r⟩
theorem Go.tr (q : Steps p.tables e below A B) (g : Go p e below s n0 k n Q B) : Go p e below s n0 k n Q A := Go.st (fun _ r => q.trans r) g
theorem Con.mk {y : MethodName} {wx : List Jvm.Cond} {rm : Room} {as : Array Value} {h0 : Heap} (hp : plainFor y = true) (hw : ∀ d ∈ ws, d.before a0 Z = true) (hz : n0 ≤ h0.size)
    (H : ∀ (p : Program) (e : Env) (s : State) (m : MethodId) (below : List Frame) (meth : Method) (c : Code) (T : State), Ctx p s m meth c Z a0 ws y.cls y.name bytes ml ret → St p l e rm s m as below meth c n0 T h0 0 0 → Go p e below s n0 rm.cells rm.slots Q (T.setTop (entryFrame m as ml))) : Con l Z y bytes ml ret wx rm n0 as h0 Q := by
  refine MetFree.of_bodySF hp hisR ?_
  intro p e s m args below meth c s₁ Bd hml hP hK
  obtain ⟨rfl, hZ, hh⟩ := hP
  have hE : s₁.heap = h0 := by rw [← hh, Bd.state]; rfl
  exact H p e s m below meth c s₁ ⟨Bd.exec, hZ, hw, findClass_of_methodNamed Bd.named, (name_of_methodNamed Bd.named Bd.method).1, Bd.bytes, hml, Bd.returns, BodyLoose.notSynchronized Bd⟩ ⟨hE, by rw [hh]; exact hz, [], Fr.nil n0, Stand.of_body Bd⟩
theorem Go.retAny (C : Ctx p s m meth c Z a0 ws own nm bytes ml ret) (X : St p l e R s m args below meth c n0 T h cells slots) {w : Value} {t : FieldType} {i : Instr} (hret : ret = some t) (hn : narrow t w = w)
    (hi : (i = .ireturn ∧ (t = .int ∨ t = .boolean ∨ t = .byte ∨ t = .char ∨ t = .short) ∧ ∃ z, w = .int z) ∨ (i = .lreturn ∧ t = .long ∧ ∃ z, w = .long z) ∨ (i = .dreturn ∧ t = .double ∧ ∃ z, w = .double z) ∨ (i = .freturn ∧ t = .float ∧ ∃ z, w = .float z) ∨ (i = .areturn ∧ t.isReference = true ∧ w.isRef = true))
    (hd : decode bytes pc = .ok (i, 1)) (hQ : Q (some w) h) (hk : cells ≤ k) (hs : slots ≤ n) : Go p e below s n0 k n Q (T.setTop (mkF m pc Ls (w :: rest))) := by
  obtain ⟨rfl, hz, locs, N, X⟩ := X
  obtain ⟨fs, hr, hrun, hended, hW, hsame⟩ := X.leave (v := some w) (fun q => by rw [C.hret, hret] at q; cases q) C.hlk
  exact ⟨_, _, retOut X C.hx (C.hret.trans hret) hn hi (hb C.hby hd) hr, hrun, hended, _, _, rfl, ⟨hQ, N⟩, ⟨_, rfl⟩, hW, hsame.mono hk hs⟩
theorem Go.retI (C : Ctx p s m meth c Z a0 ws own nm bytes ml (some .int)) (X : St p l e R s m args below meth c n0 T h cells slots) {z : Int32} (hd : decode bytes pc = .ok (.ireturn, 1)) (hQ : Q (some (.int z)) h) (hk : cells ≤ k) (hs : slots ≤ n) : Go p e below s n0 k n Q (T.setTop (mkF m pc Ls (.int z :: rest))) :=
  Go.retAny C X rfl rfl (Or.inl ⟨rfl, Or.inl rfl, _, rfl⟩) hd hQ hk hs
theorem Go.retZ (C : Ctx p s m meth c Z a0 ws own nm bytes ml (some .boolean)) (X : St p l e R s m args below meth c n0 T h cells slots) {z : Int32} (hz : z = 0 ∨ z = 1) (hd : decode bytes pc = .ok (.ireturn, 1)) (hQ : Q (some (.int z)) h) (hk : cells ≤ k) (hs : slots ≤ n) : Go p e below s n0 k n Q (T.setTop (mkF m pc Ls (.int z :: rest))) :=
  Go.retAny C X rfl (by rcases hz with rfl | rfl <;> rfl) (Or.inl ⟨rfl, Or.inr (Or.inl rfl), _, rfl⟩) hd hQ hk hs
theorem Go.retJ (C : Ctx p s m meth c Z a0 ws own nm bytes ml (some .long)) (X : St p l e R s m args below meth c n0 T h cells slots) {z : Int64} (hd : decode bytes pc = .ok (.lreturn, 1)) (hQ : Q (some (.long z)) h) (hk : cells ≤ k) (hs : slots ≤ n) : Go p e below s n0 k n Q (T.setTop (mkF m pc Ls (.long z :: rest))) :=
  Go.retAny C X rfl rfl (Or.inr (Or.inl ⟨rfl, rfl, _, rfl⟩)) hd hQ hk hs
theorem Go.retA {t : FieldType} (C : Ctx p s m meth c Z a0 ws own nm bytes ml (some t)) (X : St p l e R s m args below meth c n0 T h cells slots) {v : Value} (ht : t.isReference = true) (hv : v.isRef = true) (hd : decode bytes pc = .ok (.areturn, 1)) (hQ : Q (some v) h) (hk : cells ≤ k) (hs : slots ≤ n) : Go p e below s n0 k n Q (T.setTop (mkF m pc Ls (v :: rest))) :=
  Go.retAny C X rfl (by cases t <;> cases v <;> first | rfl | (simp [FieldType.isReference] at ht; done) | (simp [Value.isRef] at hv; done)) (Or.inr (Or.inr (Or.inr (Or.inr ⟨rfl, ht, hv⟩)))) hd hQ hk hs
theorem Go.retV (C : Ctx p s m meth c Z a0 ws own nm bytes ml none) (X : St p l e R s m args below meth c n0 T h cells slots) (hd : decode bytes pc = .ok (.return_, 1)) (hQ : Q none h) (hk : cells ≤ k) (hs : slots ≤ n) : Go p e below s n0 k n Q (T.setTop (mkF m pc Ls [])) := by
  obtain ⟨rfl, hz, locs, N, X⟩ := X
  obtain ⟨fs, hr, hrun, hended, hW, hsame⟩ := X.leave (v := none) (fun _ => rfl) C.hlk
  exact ⟨_, _, X.returnOut C.hx C.hret (hb C.hby hd) hr, hrun, hended, _, _, rfl, ⟨hQ, N⟩, ⟨_, rfl⟩, hW, hsame.mono hk hs⟩
theorem Go.if_eq (C : Ctx p s m meth c Z a0 ws own nm bytes ml ret) (X : St p l e R s m args below meth c n0 T h cells slots) {x : Int32} {o : Int} {pc' : Nat} (hd : decode bytes pc = .ok (.ifCond .eq o, 3)) (ho : 0 ≤ (pc : Int) + o) (hp : ((pc : Int) + o).toNat = pc') (Y : x = 0 → Go p e below s n0 k n Q (T.setTop (mkF m pc' Ls rest))) (N : ¬ x = 0 → Go p e below s n0 k n Q (T.setTop (mkF m (pc + 3) Ls rest))) : Go p e below s n0 k n Q (T.setTop (mkF m pc Ls (.int x :: rest))) := by
  by_cases q : x = 0
  · exact Go.st (fun _ => XS.ifYes X.here C.hx rfl rfl (hb C.hby hd) rfl (by simpa [ifCond.holds] using q) ho hp) (Y q)
  · exact Go.st (fun _ => XS.ifNo X.here C.hx rfl (hb C.hby hd) rfl (by simpa [ifCond.holds] using q) ) (N q)
theorem Go.icmp_eq (C : Ctx p s m meth c Z a0 ws own nm bytes ml ret) (X : St p l e R s m args below meth c n0 T h cells slots) {x y : Int32} {o : Int} {pc' : Nat} (hd : decode bytes pc = .ok (.if_icmp .eq o, 3)) (ho : 0 ≤ (pc : Int) + o) (hp : ((pc : Int) + o).toNat = pc') (Y : x = y → Go p e below s n0 k n Q (T.setTop (mkF m pc' Ls rest))) (N : ¬ x = y → Go p e below s n0 k n Q (T.setTop (mkF m (pc + 3) Ls rest))) : Go p e below s n0 k n Q (T.setTop (mkF m pc Ls (.int y :: .int x :: rest))) := by
  by_cases q : x = y
  · exact Go.st (fun _ => XS.icmpYes X.here C.hx rfl rfl (hb C.hby hd) rfl (by simpa [if_icmp.holds] using q) ho hp) (Y q)
  · exact Go.st (fun _ => XS.icmpNo X.here C.hx rfl (hb C.hby hd) rfl (by simpa [if_icmp.holds] using q) ) (N q)
theorem Go.if_ne (C : Ctx p s m meth c Z a0 ws own nm bytes ml ret) (X : St p l e R s m args below meth c n0 T h cells slots) {x : Int32} {o : Int} {pc' : Nat} (hd : decode bytes pc = .ok (.ifCond .ne o, 3)) (ho : 0 ≤ (pc : Int) + o) (hp : ((pc : Int) + o).toNat = pc') (Y : ¬ x = 0 → Go p e below s n0 k n Q (T.setTop (mkF m pc' Ls rest))) (N : x = 0 → Go p e below s n0 k n Q (T.setTop (mkF m (pc + 3) Ls rest))) : Go p e below s n0 k n Q (T.setTop (mkF m pc Ls (.int x :: rest))) := by
  by_cases q : x = 0
  · exact Go.st (fun _ => XS.ifNo X.here C.hx rfl (hb C.hby hd) rfl (by simpa [ifCond.holds] using q) ) (N q)
  · exact Go.st (fun _ => XS.ifYes X.here C.hx rfl rfl (hb C.hby hd) rfl (by simpa [ifCond.holds] using q) ho hp) (Y q)
theorem Go.icmp_ne (C : Ctx p s m meth c Z a0 ws own nm bytes ml ret) (X : St p l e R s m args below meth c n0 T h cells slots) {x y : Int32} {o : Int} {pc' : Nat} (hd : decode bytes pc = .ok (.if_icmp .ne o, 3)) (ho : 0 ≤ (pc : Int) + o) (hp : ((pc : Int) + o).toNat = pc') (Y : ¬ x = y → Go p e below s n0 k n Q (T.setTop (mkF m pc' Ls rest))) (N : x = y → Go p e below s n0 k n Q (T.setTop (mkF m (pc + 3) Ls rest))) : Go p e below s n0 k n Q (T.setTop (mkF m pc Ls (.int y :: .int x :: rest))) := by
  by_cases q : x = y
  · exact Go.st (fun _ => XS.icmpNo X.here C.hx rfl (hb C.hby hd) rfl (by simpa [if_icmp.holds] using q) ) (N q)
  · exact Go.st (fun _ => XS.icmpYes X.here C.hx rfl rfl (hb C.hby hd) rfl (by simpa [if_icmp.holds] using q) ho hp) (Y q)
theorem Go.if_lt (C : Ctx p s m meth c Z a0 ws own nm bytes ml ret) (X : St p l e R s m args below meth c n0 T h cells slots) {x : Int32} {o : Int} {pc' : Nat} (hd : decode bytes pc = .ok (.ifCond .lt o, 3)) (ho : 0 ≤ (pc : Int) + o) (hp : ((pc : Int) + o).toNat = pc') (Y : x < 0 → Go p e below s n0 k n Q (T.setTop (mkF m pc' Ls rest))) (N : ¬ x < 0 → Go p e below s n0 k n Q (T.setTop (mkF m (pc + 3) Ls rest))) : Go p e below s n0 k n Q (T.setTop (mkF m pc Ls (.int x :: rest))) := by
  by_cases q : x < 0
  · exact Go.st (fun _ => XS.ifYes X.here C.hx rfl rfl (hb C.hby hd) rfl (by simpa [ifCond.holds] using q) ho hp) (Y q)
  · exact Go.st (fun _ => XS.ifNo X.here C.hx rfl (hb C.hby hd) rfl (by simpa [ifCond.holds] using q) ) (N q)
theorem Go.icmp_lt (C : Ctx p s m meth c Z a0 ws own nm bytes ml ret) (X : St p l e R s m args below meth c n0 T h cells slots) {x y : Int32} {o : Int} {pc' : Nat} (hd : decode bytes pc = .ok (.if_icmp .lt o, 3)) (ho : 0 ≤ (pc : Int) + o) (hp : ((pc : Int) + o).toNat = pc') (Y : x < y → Go p e below s n0 k n Q (T.setTop (mkF m pc' Ls rest))) (N : ¬ x < y → Go p e below s n0 k n Q (T.setTop (mkF m (pc + 3) Ls rest))) : Go p e below s n0 k n Q (T.setTop (mkF m pc Ls (.int y :: .int x :: rest))) := by
  by_cases q : x < y
  · exact Go.st (fun _ => XS.icmpYes X.here C.hx rfl rfl (hb C.hby hd) rfl (by simpa [if_icmp.holds] using q) ho hp) (Y q)
  · exact Go.st (fun _ => XS.icmpNo X.here C.hx rfl (hb C.hby hd) rfl (by simpa [if_icmp.holds] using q) ) (N q)
theorem Go.if_ge (C : Ctx p s m meth c Z a0 ws own nm bytes ml ret) (X : St p l e R s m args below meth c n0 T h cells slots) {x : Int32} {o : Int} {pc' : Nat} (hd : decode bytes pc = .ok (.ifCond .ge o, 3)) (ho : 0 ≤ (pc : Int) + o) (hp : ((pc : Int) + o).toNat = pc') (Y : ¬ x < 0 → Go p e below s n0 k n Q (T.setTop (mkF m pc' Ls rest))) (N : x < 0 → Go p e below s n0 k n Q (T.setTop (mkF m (pc + 3) Ls rest))) : Go p e below s n0 k n Q (T.setTop (mkF m pc Ls (.int x :: rest))) := by
  by_cases q : x < 0
  · exact Go.st (fun _ => XS.ifNo X.here C.hx rfl (hb C.hby hd) rfl (by simpa [ifCond.holds, Int32.not_lt] using q) ) (N q)
  · exact Go.st (fun _ => XS.ifYes X.here C.hx rfl rfl (hb C.hby hd) rfl (by simpa [ifCond.holds, Int32.not_lt] using q) ho hp) (Y q)
theorem Go.icmp_ge (C : Ctx p s m meth c Z a0 ws own nm bytes ml ret) (X : St p l e R s m args below meth c n0 T h cells slots) {x y : Int32} {o : Int} {pc' : Nat} (hd : decode bytes pc = .ok (.if_icmp .ge o, 3)) (ho : 0 ≤ (pc : Int) + o) (hp : ((pc : Int) + o).toNat = pc') (Y : ¬ x < y → Go p e below s n0 k n Q (T.setTop (mkF m pc' Ls rest))) (N : x < y → Go p e below s n0 k n Q (T.setTop (mkF m (pc + 3) Ls rest))) : Go p e below s n0 k n Q (T.setTop (mkF m pc Ls (.int y :: .int x :: rest))) := by
  by_cases q : x < y
  · exact Go.st (fun _ => XS.icmpNo X.here C.hx rfl (hb C.hby hd) rfl (by simpa [if_icmp.holds, Int32.not_lt] using q) ) (N q)
  · exact Go.st (fun _ => XS.icmpYes X.here C.hx rfl rfl (hb C.hby hd) rfl (by simpa [if_icmp.holds, Int32.not_lt] using q) ho hp) (Y q)
theorem Go.if_gt (C : Ctx p s m meth c Z a0 ws own nm bytes ml ret) (X : St p l e R s m args below meth c n0 T h cells slots) {x : Int32} {o : Int} {pc' : Nat} (hd : decode bytes pc = .ok (.ifCond .gt o, 3)) (ho : 0 ≤ (pc : Int) + o) (hp : ((pc : Int) + o).toNat = pc') (Y : 0 < x → Go p e below s n0 k n Q (T.setTop (mkF m pc' Ls rest))) (N : ¬ 0 < x → Go p e below s n0 k n Q (T.setTop (mkF m (pc + 3) Ls rest))) : Go p e below s n0 k n Q (T.setTop (mkF m pc Ls (.int x :: rest))) := by
  by_cases q : 0 < x
  · exact Go.st (fun _ => XS.ifYes X.here C.hx rfl rfl (hb C.hby hd) rfl (by simpa [ifCond.holds] using q) ho hp) (Y q)
  · exact Go.st (fun _ => XS.ifNo X.here C.hx rfl (hb C.hby hd) rfl (by simpa [ifCond.holds] using q) ) (N q)
theorem Go.icmp_gt (C : Ctx p s m meth c Z a0 ws own nm bytes ml ret) (X : St p l e R s m args below meth c n0 T h cells slots) {x y : Int32} {o : Int} {pc' : Nat} (hd : decode bytes pc = .ok (.if_icmp .gt o, 3)) (ho : 0 ≤ (pc : Int) + o) (hp : ((pc : Int) + o).toNat = pc') (Y : y < x → Go p e below s n0 k n Q (T.setTop (mkF m pc' Ls rest))) (N : ¬ y < x → Go p e below s n0 k n Q (T.setTop (mkF m (pc + 3) Ls rest))) : Go p e below s n0 k n Q (T.setTop (mkF m pc Ls (.int y :: .int x :: rest))) := by
  by_cases q : y < x
  · exact Go.st (fun _ => XS.icmpYes X.here C.hx rfl rfl (hb C.hby hd) rfl (by simpa [if_icmp.holds] using q) ho hp) (Y q)
  · exact Go.st (fun _ => XS.icmpNo X.here C.hx rfl (hb C.hby hd) rfl (by simpa [if_icmp.holds] using q) ) (N q)
theorem Go.if_le (C : Ctx p s m meth c Z a0 ws own nm bytes ml ret) (X : St p l e R s m args below meth c n0 T h cells slots) {x : Int32} {o : Int} {pc' : Nat} (hd : decode bytes pc = .ok (.ifCond .le o, 3)) (ho : 0 ≤ (pc : Int) + o) (hp : ((pc : Int) + o).toNat = pc') (Y : ¬ 0 < x → Go p e below s n0 k n Q (T.setTop (mkF m pc' Ls rest))) (N : 0 < x → Go p e below s n0 k n Q (T.setTop (mkF m (pc + 3) Ls rest))) : Go p e below s n0 k n Q (T.setTop (mkF m pc Ls (.int x :: rest))) := by
  by_cases q : 0 < x
  · exact Go.st (fun _ => XS.ifNo X.here C.hx rfl (hb C.hby hd) rfl (by simpa [ifCond.holds, Int32.not_lt] using q) ) (N q)
  · exact Go.st (fun _ => XS.ifYes X.here C.hx rfl rfl (hb C.hby hd) rfl (by simpa [ifCond.holds, Int32.not_lt] using q) ho hp) (Y q)
theorem Go.icmp_le (C : Ctx p s m meth c Z a0 ws own nm bytes ml ret) (X : St p l e R s m args below meth c n0 T h cells slots) {x y : Int32} {o : Int} {pc' : Nat} (hd : decode bytes pc = .ok (.if_icmp .le o, 3)) (ho : 0 ≤ (pc : Int) + o) (hp : ((pc : Int) + o).toNat = pc') (Y : ¬ y < x → Go p e below s n0 k n Q (T.setTop (mkF m pc' Ls rest))) (N : y < x → Go p e below s n0 k n Q (T.setTop (mkF m (pc + 3) Ls rest))) : Go p e below s n0 k n Q (T.setTop (mkF m pc Ls (.int y :: .int x :: rest))) := by
  by_cases q : y < x
  · exact Go.st (fun _ => XS.icmpNo X.here C.hx rfl (hb C.hby hd) rfl (by simpa [if_icmp.holds, Int32.not_lt] using q) ) (N q)
  · exact Go.st (fun _ => XS.icmpYes X.here C.hx rfl rfl (hb C.hby hd) rfl (by simpa [if_icmp.holds, Int32.not_lt] using q) ho hp) (Y q)
theorem Go.lif_eq (C : Ctx p s m meth c Z a0 ws own nm bytes ml ret) (X : St p l e R s m args below meth c n0 T h cells slots) {x y : Int64} {o : Int} {pc' : Nat} (hd : decode bytes pc = .ok (.ifCond .eq o, 3)) (ho : 0 ≤ (pc : Int) + o) (hp : ((pc : Int) + o).toNat = pc') (Y : x = y → Go p e below s n0 k n Q (T.setTop (mkF m pc' Ls rest))) (N : ¬ x = y → Go p e below s n0 k n Q (T.setTop (mkF m (pc + 3) Ls rest))) : Go p e below s n0 k n Q (T.setTop (mkF m pc Ls (.int (lcmpW x y) :: rest))) := by
  have q := lc_eq x y
  rw [← lcW] at q
  exact Go.if_eq C X hd ho hp (fun r => Y (q.mp r)) (fun r => N (fun u => r (q.mpr u)))
theorem Go.lif_ne (C : Ctx p s m meth c Z a0 ws own nm bytes ml ret) (X : St p l e R s m args below meth c n0 T h cells slots) {x y : Int64} {o : Int} {pc' : Nat} (hd : decode bytes pc = .ok (.ifCond .ne o, 3)) (ho : 0 ≤ (pc : Int) + o) (hp : ((pc : Int) + o).toNat = pc') (Y : ¬ x = y → Go p e below s n0 k n Q (T.setTop (mkF m pc' Ls rest))) (N : x = y → Go p e below s n0 k n Q (T.setTop (mkF m (pc + 3) Ls rest))) : Go p e below s n0 k n Q (T.setTop (mkF m pc Ls (.int (lcmpW x y) :: rest))) := by
  have q := lc_eq x y
  rw [← lcW] at q
  exact Go.if_ne C X hd ho hp (fun r => Y (fun u => r (q.mpr u))) (fun r => N (q.mp r))
theorem Go.lif_lt (C : Ctx p s m meth c Z a0 ws own nm bytes ml ret) (X : St p l e R s m args below meth c n0 T h cells slots) {x y : Int64} {o : Int} {pc' : Nat} (hd : decode bytes pc = .ok (.ifCond .lt o, 3)) (ho : 0 ≤ (pc : Int) + o) (hp : ((pc : Int) + o).toNat = pc') (Y : x < y → Go p e below s n0 k n Q (T.setTop (mkF m pc' Ls rest))) (N : ¬ x < y → Go p e below s n0 k n Q (T.setTop (mkF m (pc + 3) Ls rest))) : Go p e below s n0 k n Q (T.setTop (mkF m pc Ls (.int (lcmpW x y) :: rest))) := by
  have q := lc_lt x y
  rw [← lcW] at q
  exact Go.if_lt C X hd ho hp (fun r => Y (q.mp r)) (fun r => N (fun u => r (q.mpr u)))
theorem Go.lif_ge (C : Ctx p s m meth c Z a0 ws own nm bytes ml ret) (X : St p l e R s m args below meth c n0 T h cells slots) {x y : Int64} {o : Int} {pc' : Nat} (hd : decode bytes pc = .ok (.ifCond .ge o, 3)) (ho : 0 ≤ (pc : Int) + o) (hp : ((pc : Int) + o).toNat = pc') (Y : ¬ x < y → Go p e below s n0 k n Q (T.setTop (mkF m pc' Ls rest))) (N : x < y → Go p e below s n0 k n Q (T.setTop (mkF m (pc + 3) Ls rest))) : Go p e below s n0 k n Q (T.setTop (mkF m pc Ls (.int (lcmpW x y) :: rest))) := by
  have q := lc_lt x y
  rw [← lcW] at q
  exact Go.if_ge C X hd ho hp (fun r => Y (fun u => r (q.mpr u))) (fun r => N (q.mp r))
theorem Go.lif_gt (C : Ctx p s m meth c Z a0 ws own nm bytes ml ret) (X : St p l e R s m args below meth c n0 T h cells slots) {x y : Int64} {o : Int} {pc' : Nat} (hd : decode bytes pc = .ok (.ifCond .gt o, 3)) (ho : 0 ≤ (pc : Int) + o) (hp : ((pc : Int) + o).toNat = pc') (Y : y < x → Go p e below s n0 k n Q (T.setTop (mkF m pc' Ls rest))) (N : ¬ y < x → Go p e below s n0 k n Q (T.setTop (mkF m (pc + 3) Ls rest))) : Go p e below s n0 k n Q (T.setTop (mkF m pc Ls (.int (lcmpW x y) :: rest))) := by
  have q := lc_gt x y
  rw [← lcW] at q
  exact Go.if_gt C X hd ho hp (fun r => Y (q.mp r)) (fun r => N (fun u => r (q.mpr u)))
theorem Go.lif_le (C : Ctx p s m meth c Z a0 ws own nm bytes ml ret) (X : St p l e R s m args below meth c n0 T h cells slots) {x y : Int64} {o : Int} {pc' : Nat} (hd : decode bytes pc = .ok (.ifCond .le o, 3)) (ho : 0 ≤ (pc : Int) + o) (hp : ((pc : Int) + o).toNat = pc') (Y : ¬ y < x → Go p e below s n0 k n Q (T.setTop (mkF m pc' Ls rest))) (N : y < x → Go p e below s n0 k n Q (T.setTop (mkF m (pc + 3) Ls rest))) : Go p e below s n0 k n Q (T.setTop (mkF m pc Ls (.int (lcmpW x y) :: rest))) := by
  have q := lc_gt x y
  rw [← lcW] at q
  exact Go.if_le C X hd ho hp (fun r => Y (fun u => r (q.mpr u))) (fun r => N (q.mp r))
theorem Go.acmp_eq (C : Ctx p s m meth c Z a0 ws own nm bytes ml ret) (X : St p l e R s m args below meth c n0 T h cells slots) {x y : Value} (h1 : x.isRef = true) (h2 : y.isRef = true) {o : Int} {pc' : Nat} (hd : decode bytes pc = .ok (.if_acmp .eq o, 3)) (ho : 0 ≤ (pc : Int) + o) (hp : ((pc : Int) + o).toNat = pc') (Y : x = y → Go p e below s n0 k n Q (T.setTop (mkF m pc' Ls rest))) (N : ¬ x = y → Go p e below s n0 k n Q (T.setTop (mkF m (pc + 3) Ls rest))) : Go p e below s n0 k n Q (T.setTop (mkF m pc Ls (y :: x :: rest))) := by
  obtain ⟨-, -, _, -, X⟩ := X
  by_cases q : x = y
  · exact Go.st (fun _ => Jvm.RoadKit.acmp (g := mkF m pc Ls (y :: x :: rest)) X C.hx rfl h1 h2 (same := true) rfl (hb C.hby hd) rfl (decide_eq_true q) ho (by rw [← hp]; rfl)) (Y q)
  · exact Go.st (fun _ => Jvm.RoadKit.acmp (g := mkF m pc Ls (y :: x :: rest)) X C.hx rfl h1 h2 (same := false) rfl (hb C.hby hd) rfl (decide_eq_false q) ho (by rfl)) (N q)
theorem Go.acmp_ne (C : Ctx p s m meth c Z a0 ws own nm bytes ml ret) (X : St p l e R s m args below meth c n0 T h cells slots) {x y : Value} (h1 : x.isRef = true) (h2 : y.isRef = true) {o : Int} {pc' : Nat} (hd : decode bytes pc = .ok (.if_acmp .ne o, 3)) (ho : 0 ≤ (pc : Int) + o) (hp : ((pc : Int) + o).toNat = pc') (Y : ¬ x = y → Go p e below s n0 k n Q (T.setTop (mkF m pc' Ls rest))) (N : x = y → Go p e below s n0 k n Q (T.setTop (mkF m (pc + 3) Ls rest))) : Go p e below s n0 k n Q (T.setTop (mkF m pc Ls (y :: x :: rest))) := by
  obtain ⟨-, -, _, -, X⟩ := X
  by_cases q : x = y
  · exact Go.st (fun _ => Jvm.RoadKit.acmp (g := mkF m pc Ls (y :: x :: rest)) X C.hx rfl h1 h2 (same := true) rfl (hb C.hby hd) rfl (decide_eq_true q) ho (by rfl)) (N q)
  · exact Go.st (fun _ => Jvm.RoadKit.acmp (g := mkF m pc Ls (y :: x :: rest)) X C.hx rfl h1 h2 (same := false) rfl (hb C.hby hd) rfl (decide_eq_false q) ho (by rw [← hp]; rfl)) (Y q)
theorem Go.getF (C : Ctx p s m meth c Z a0 ws own nm bytes ml ret) (X : St p l e R s m args below meth c n0 T h cells slots) {O n1 d : String} {i : Nat} {a : Addr} {v : Value} (w : Jvm.Cond.fieldLink own i O n1 d ∈ ws) (F : Fld Z h a O n1 d v) (hd : decode bytes pc = .ok (.getfield i, 3)) (K : ∀ T', St p l e R s m args below meth c n0 T' h cells slots → Go p e below s n0 k n Q (T'.setTop (mkF m (pc + 3) Ls (v :: rest)))) : Go p e below s n0 k n Q (T.setTop (mkF m pc Ls (.ref a :: rest))) := by
  obtain ⟨e0, hz, locs, N, X⟩ := X
  obtain ⟨T', X', e', st⟩ := Jvm.RoadKit.getF X C.hx C.hZ C.hown (host := "") (Or.inl (C.w w)) Via.refl e0 F (g := mkF m pc Ls (.ref a :: rest)) rfl rfl (hb C.hby hd)
  exact Go.st st (K T' ⟨e', hz, locs, N, X'⟩)
theorem Go.getS (C : Ctx p s m meth c Z a0 ws own nm bytes ml ret) (X : St p l e R s m args below meth c n0 T h cells slots) {O n1 d : String} {i : Nat} {v : Value} (w : Jvm.Cond.fieldLink own i O n1 d ∈ ws) (F : Sta Z h O n1 d v) (hd : decode bytes pc = .ok (.getstatic i, 3)) (K : ∀ T', St p l e R s m args below meth c n0 T' h cells slots → Go p e below s n0 k n Q (T'.setTop (mkF m (pc + 3) Ls (v :: stk)))) : Go p e below s n0 k n Q (T.setTop (mkF m pc Ls stk)) := by
  obtain ⟨e0, hz, locs, N, X⟩ := X
  obtain ⟨T', X', e', st⟩ := Jvm.RoadKit.getS2 X C.hx C.hZ C.hown (host := "") (Or.inl (C.w w)) Via.refl e0 F (g := mkF m pc Ls stk) rfl (hb C.hby hd)
  exact Go.st st (K T' ⟨e', hz, locs, N, X'⟩)
theorem Go.putF (C : Ctx p s m meth c Z a0 ws own nm bytes ml ret) (X : St p l e R s m args below meth c n0 T h cells slots) {O n1 d C1 : String} {i kk : Nat} {ty : FieldType} {a : Addr} {v old : Value} (w : Jvm.Cond.fieldLink own i O n1 d ∈ ws) (F : Fld Z h a O n1 d old) (E : Exa Z h a C1) (L : Jvm.Cond.lays C1 O n1 d ∈ ws ∨ (Jvm.Cond.laysFinal C1 O n1 d ∈ ws ∧ own = O ∧ nm = "<init>")) (wi : Jvm.Cond.instantiable C1 kk ∈ ws)
    (hty : parseFieldDescriptor d = some ty) (hn : narrow ty v = v) (hf : fits ty v = true) (ha : n0 ≤ a) (hd : decode bytes pc = .ok (.putfield i, 3)) (K : ∀ T' h', St p l e R s m args below meth c n0 T' h' cells slots → Wr h h' a (Jvm.RoadKit.slotOf Z O n1 d) v → Fld Z h' a O n1 d v → Go p e below s n0 k n Q (T'.setTop (mkF m (pc + 3) Ls rest))) : Go p e below s n0 k n Q (T.setTop (mkF m pc Ls (v :: .ref a :: rest))) := by
  obtain ⟨e0, hz, locs, N, X⟩ := X
  obtain ⟨T', h', X', e', W, st⟩ := Jvm.RoadKit.putF X C.hx C.hZ C.hown (host := "") (Or.inl (C.w w)) Via.refl e0 F E (L.imp (fun q => C.w q) (fun q => ⟨C.w q.1, q.2.1, C.hnm.trans q.2.2⟩)) (C.w wi) hty hn hf (g := mkF m pc Ls (v :: .ref a :: rest)) rfl rfl (hb C.hby hd)
  exact Go.st st (K T' h' ⟨e', hz, _, Fr.snoc X' N ha, X'⟩ W (F.same W))
theorem Go.newO (C : Ctx p s m meth c Z a0 ws own nm bytes ml ret) (X : St p l e R s m args below meth c n0 T h cells slots) {C1 : String} {i kk : Nat} (w : Jvm.Cond.classLink own i C1 ∈ ws) (wi : Jvm.Cond.instantiable C1 kk ∈ ws) (wz : Jvm.Cond.initialized C1 ∈ ws) (hd : decode bytes pc = .ok (.new i, 3)) (hc : cells + 1 ≤ R.cells) (hl : slots + kk ≤ R.slots)
    (K : ∀ T' h' b, h.size = b → n0 ≤ b → St p l e R s m args below meth c n0 T' h' (cells + 1) (slots + kk) → Ext h h' → Exa Z h' b C1 → (∀ {O n1 d : String} {ty : FieldType}, (Jvm.Cond.lays C1 O n1 d ∈ ws ∨ Jvm.Cond.laysFinal C1 O n1 d ∈ ws) → parseFieldDescriptor d = some ty → Fld Z h' b O n1 d (defaultValue ty)) → Go p e below s n0 k n Q (T'.setTop (mkF m (pc + 3) Ls (.ref b :: stk)))) : Go p e below s n0 k n Q (T.setTop (mkF m pc Ls stk)) := by
  have hs := X.size
  obtain ⟨e0, hz, locs, N, X⟩ := X
  obtain ⟨T', h', X', e', E, E1, D, -, st⟩ := Jvm.RoadKit.newO X C.hx C.hZ C.hown (C.w w) (C.w wi) (C.w wz) e0 (g := mkF m pc Ls stk) rfl (hb C.hby hd) hc hl
  exact Go.st st (K T' h' _ rfl hs ⟨e', hz, _, N, X'⟩ E E1 (fun q r => D (q.imp (fun q => C.w q) (fun q => C.w q)) r))
theorem AR.of {cA : ClassId} {ty : FieldType} {z : Int32} {a : Addr} (F : Arr Z h a (newA cA ty z) ty) (q : ¬ z < 0) : AR Z h a ty (List.replicate z.toNatClampNeg (defaultValue ty)) :=
  ⟨_, F, by simp [newA], by rw [List.length_replicate]; exact (back32 q).2⟩
theorem Go.newP (C : Ctx p s m meth c Z a0 ws own nm bytes ml ret) (X : St p l e R s m args below meth c n0 T h cells slots) {aty : ArrayType} {z : Int32} {cap : Nat} (w : Jvm.Cond.arrayClass (newarray.typeOf aty) ∈ ws) (hd : decode bytes pc = .ok (.newarray aty, 2)) (hn : ¬ z < 0) (hcap : z.toNatClampNeg ≤ cap) (hb8 : cap * 8 ≤ 536870912) (hc : cells + 1 ≤ R.cells) (hl : slots + cap ≤ R.slots)
    (K : ∀ T' h' b, h.size = b → n0 ≤ b → St p l e R s m args below meth c n0 T' h' (cells + 1) (slots + cap) → Ext h h' → AR Z h' b (newarray.typeOf aty) (List.replicate z.toNatClampNeg (defaultValue (newarray.typeOf aty))) → Go p e below s n0 k n Q (T'.setTop (mkF m (pc + 2) Ls (.ref b :: rest)))) : Go p e below s n0 k n Q (T.setTop (mkF m pc Ls (.int z :: rest))) := by
  have hs := X.size
  obtain ⟨e0, hz, locs, N, X⟩ := X
  obtain ⟨T', h', cA, X', e', E, F, st⟩ := Jvm.RoadKit.newP X C.hx C.hZ (C.w w) e0 (g := mkF m pc Ls (.int z :: rest)) rfl (hb C.hby hd) rfl hn hcap hb8 hc hl
  exact Go.st st (K T' h' _ rfl hs ⟨e', hz, _, N, X'⟩ E (AR.of F hn))
theorem AR.lt {a : Addr} {ty : FieldType} {vs : List Value} (F : AR Z h a ty vs) : a < h.size := by obtain ⟨c, A, -⟩ := F; exact A.lt
theorem AR.ext {a : Addr} {ty : FieldType} {vs : List Value} (F : AR Z h a ty vs) (E : Ext h h') : AR Z h' a ty vs := by obtain ⟨c, A, r⟩ := F; exact ⟨c, A.ext E, r⟩
theorem AR.other {a b : Addr} {ty : FieldType} {vs : List Value} {sl : Nat} {v : Value} (F : AR Z h b ty vs) (W : Wr h h' a sl v) (q : b ≠ a) : AR Z h' b ty vs := by obtain ⟨c, A, r⟩ := F; exact ⟨c, A.other W q, r⟩
theorem AR.keep {a : Addr} {ty : FieldType} {vs : List Value} {us : List Addr} (F : AR Z h a ty vs) (K : Keep h h' us) (q : a ∉ us) : AR Z h' a ty vs := by obtain ⟨c, A, r⟩ := F; exact ⟨c, ⟨K.2.1 a c A.1 q, A.2⟩, r⟩
theorem AR.same {a : Addr} {ty : FieldType} {vs : List Value} {i : Nat} {v : Value} (F : AR Z h a ty vs) (W : Wr h h' a i v) : AR Z h' a ty (vs.set i v) := by
  obtain ⟨c, A, r, q⟩ := F
  refine ⟨_, A.same W, ?_, by rw [List.length_set]; exact q⟩
  simp [Cell.setSlot, r]
theorem AR.in {a : Addr} {ty : FieldType} {vs : List Value} {j : Int32} {c : Cell} (r : c.slots = vs.toArray) (hj : ¬ j < 0) (hl : j.toNatClampNeg < vs.length) : ¬ (j < 0 ∨ c.slots.size ≤ j.toNatClampNeg) := by
  rw [r]; simp; exact ⟨Int32.not_lt.mp hj, hl⟩
theorem AR.ne {a b : Addr} {ty : FieldType} {vs : List Value} (F : AR Z h a ty vs) (g : h.size = b) : a ≠ b := by subst g; exact Nat.ne_of_lt F.lt
theorem ltOf {vs : List Value} {i : Nat} {v : Value} (q : vs[i]? = some v) : i < vs.length := (List.getElem?_eq_some_iff.mp q).1
theorem Go.iaload (C : Ctx p s m meth c Z a0 ws own nm bytes ml ret) (X : St p l e R s m args below meth c n0 T h cells slots) {a : Addr} {vs : List Value} {j : Int32} {x : Int32} (F : AR Z h a .int vs) (hj : ¬ j < 0) (hv : vs[j.toNatClampNeg]? = some (.int x)) (hd : decode bytes pc = .ok (.iaload, 1)) (K : Go p e below s n0 k n Q (T.setTop (mkF m (pc + 1) Ls (.int x :: rest)))) : Go p e below s n0 k n Q (T.setTop (mkF m pc Ls (.int j :: .ref a :: rest))) := by
  obtain ⟨e0, hz, locs, N, X⟩ := X
  obtain ⟨cl, A, r, -⟩ := F
  exact Go.st (X.iaload C.hx (j := j) (v := .int x) (by rw [e0]; exact A.1) (State.isArrayOf_alike C.hZ.alike A.2.1) A.2.2 (AR.in (a := a) (ty := .int) r hj (ltOf hv)) (by rw [r]; simpa using hv) (g := mkF m pc Ls (.int j :: .ref a :: rest)) rfl rfl (hb C.hby hd)) K
theorem Go.laload (C : Ctx p s m meth c Z a0 ws own nm bytes ml ret) (X : St p l e R s m args below meth c n0 T h cells slots) {a : Addr} {vs : List Value} {j : Int32} {x : Int64} (F : AR Z h a .long vs) (hj : ¬ j < 0) (hv : vs[j.toNatClampNeg]? = some (.long x)) (hd : decode bytes pc = .ok (.laload, 1)) (K : Go p e below s n0 k n Q (T.setTop (mkF m (pc + 1) Ls (.long x :: rest)))) : Go p e below s n0 k n Q (T.setTop (mkF m pc Ls (.int j :: .ref a :: rest))) := by
  obtain ⟨e0, hz, locs, N, X⟩ := X
  obtain ⟨cl, A, r, -⟩ := F
  exact Go.st (X.laload C.hx (j := j) (v := .long x) (by rw [e0]; exact A.1) (State.isArrayOf_alike C.hZ.alike A.2.1) A.2.2 (AR.in (a := a) (ty := .long) r hj (ltOf hv)) (by rw [r]; simpa using hv) (g := mkF m pc Ls (.int j :: .ref a :: rest)) rfl rfl (hb C.hby hd)) K
theorem Go.baload (C : Ctx p s m meth c Z a0 ws own nm bytes ml ret) (X : St p l e R s m args below meth c n0 T h cells slots) {a : Addr} {vs : List Value} {j : Int32} {x : Int32} (F : AR Z h a .byte vs) (hj : ¬ j < 0) (hv : vs[j.toNatClampNeg]? = some (.int x)) (hd : decode bytes pc = .ok (.baload, 1)) (K : Go p e below s n0 k n Q (T.setTop (mkF m (pc + 1) Ls (.int x :: rest)))) : Go p e below s n0 k n Q (T.setTop (mkF m pc Ls (.int j :: .ref a :: rest))) := by
  obtain ⟨e0, hz, locs, N, X⟩ := X
  obtain ⟨cl, A, r, -⟩ := F
  exact Go.st (X.baloadBytes C.hx (j := j) (v := .int x) (by rw [e0]; exact A.1) (State.isArrayOf_alike C.hZ.alike A.2.1) A.2.2 (AR.in (a := a) (ty := .byte) r hj (ltOf hv)) (by rw [r]; simpa using hv) (g := mkF m pc Ls (.int j :: .ref a :: rest)) rfl rfl (hb C.hby hd)) K
theorem Go.aaload (C : Ctx p s m meth c Z a0 ws own nm bytes ml ret) (X : St p l e R s m args below meth c n0 T h cells slots) {a : Addr} {ty : FieldType} {vs : List Value} {j : Int32} {v : Value} (F : AR Z h a ty vs) (hty : ty.isReference = true) (hj : ¬ j < 0) (hv : vs[j.toNatClampNeg]? = some v) (hd : decode bytes pc = .ok (.aaload, 1)) (K : Go p e below s n0 k n Q (T.setTop (mkF m (pc + 1) Ls (v :: rest)))) : Go p e below s n0 k n Q (T.setTop (mkF m pc Ls (.int j :: .ref a :: rest))) := by
  obtain ⟨e0, hz, locs, N, X⟩ := X
  obtain ⟨cl, A, r, -⟩ := F
  exact Go.st (X.aaload C.hx (j := j) (v := v) (by rw [e0]; exact A.1) (State.isArrayOf_alike C.hZ.alike A.2.1) hty A.2.2 (AR.in (a := a) (ty := ty) r hj (ltOf hv)) (by rw [r]; simpa using hv) (g := mkF m pc Ls (.int j :: .ref a :: rest)) rfl rfl (hb C.hby hd)) K
theorem Go.alen (C : Ctx p s m meth c Z a0 ws own nm bytes ml ret) (X : St p l e R s m args below meth c n0 T h cells slots) {a : Addr} {ty : FieldType} {vs : List Value} {z : Int32} (F : AR Z h a ty vs) (hz : vs.length.toInt32 = z) (hd : decode bytes pc = .ok (.arraylength, 1)) (K : Go p e below s n0 k n Q (T.setTop (mkF m (pc + 1) Ls (.int z :: rest)))) : Go p e below s n0 k n Q (T.setTop (mkF m pc Ls (.ref a :: rest))) := by
  subst hz
  obtain ⟨e0, hz, locs, N, X⟩ := X
  obtain ⟨cl, A, r, -⟩ := F
  refine Go.st (X.arraylength C.hx (by rw [e0]; exact A.1) (State.isArrayOf_alike C.hZ.alike A.2.1) (g := mkF m pc Ls (.ref a :: rest)) rfl rfl (hb C.hby hd)) ?_
  rw [r]
  simpa using K
theorem Go.iastore (C : Ctx p s m meth c Z a0 ws own nm bytes ml ret) (X : St p l e R s m args below meth c n0 T h cells slots) {a : Addr} {vs : List Value} {j : Int32} {x : Int32} (F : AR Z h a .int vs) (hj : ¬ j < 0) (hl : j.toNatClampNeg < vs.length) (ha : n0 ≤ a) (hd : decode bytes pc = .ok (.iastore, 1)) (K : ∀ T' h', St p l e R s m args below meth c n0 T' h' cells slots → Wr h h' a j.toNatClampNeg (.int x) → AR Z h' a .int (vs.set j.toNatClampNeg (.int x)) → Go p e below s n0 k n Q (T'.setTop (mkF m (pc + 1) Ls rest))) : Go p e below s n0 k n Q (T.setTop (mkF m pc Ls (.int x :: .int j :: .ref a :: rest))) := by
  obtain ⟨e0, hz, locs, N, X⟩ := X
  have F0 := F
  obtain ⟨cl, A, r, -⟩ := F
  obtain ⟨T', h', X', e', W, st⟩ := Jvm.RoadKit.stI X C.hx C.hZ e0 A (j := j) (x := x) (AR.in (a := a) (ty := .int) r hj hl) (g := mkF m pc Ls (.int x :: .int j :: .ref a :: rest)) rfl rfl (hb C.hby hd)
  exact Go.st st (K T' h' ⟨e', hz, _, Fr.snoc X' N ha, X'⟩ W (F0.same W))
theorem Go.lastore (C : Ctx p s m meth c Z a0 ws own nm bytes ml ret) (X : St p l e R s m args below meth c n0 T h cells slots) {a : Addr} {vs : List Value} {j : Int32} {x : Int64} (F : AR Z h a .long vs) (hj : ¬ j < 0) (hl : j.toNatClampNeg < vs.length) (ha : n0 ≤ a) (hd : decode bytes pc = .ok (.lastore, 1)) (K : ∀ T' h', St p l e R s m args below meth c n0 T' h' cells slots → Wr h h' a j.toNatClampNeg (.long x) → AR Z h' a .long (vs.set j.toNatClampNeg (.long x)) → Go p e below s n0 k n Q (T'.setTop (mkF m (pc + 1) Ls rest))) : Go p e below s n0 k n Q (T.setTop (mkF m pc Ls (.long x :: .int j :: .ref a :: rest))) := by
  obtain ⟨e0, hz, locs, N, X⟩ := X
  have F0 := F
  obtain ⟨cl, A, r, -⟩ := F
  obtain ⟨T', h', X', e', W, st⟩ := Jvm.RoadKit.stJ X C.hx C.hZ e0 A (j := j) (x := x) (AR.in (a := a) (ty := .long) r hj hl) (g := mkF m pc Ls (.long x :: .int j :: .ref a :: rest)) rfl rfl (hb C.hby hd)
  exact Go.st st (K T' h' ⟨e', hz, _, Fr.snoc X' N ha, X'⟩ W (F0.same W))
theorem Go.bastore (C : Ctx p s m meth c Z a0 ws own nm bytes ml ret) (X : St p l e R s m args below meth c n0 T h cells slots) {a : Addr} {vs : List Value} {j : Int32} {x : Int32} (F : AR Z h a .byte vs) (hj : ¬ j < 0) (hl : j.toNatClampNeg < vs.length) (ha : n0 ≤ a) (hd : decode bytes pc = .ok (.bastore, 1)) (K : ∀ T' h', St p l e R s m args below meth c n0 T' h' cells slots → Wr h h' a j.toNatClampNeg (.int (nar .byte x)) → AR Z h' a .byte (vs.set j.toNatClampNeg (.int (nar .byte x))) → Go p e below s n0 k n Q (T'.setTop (mkF m (pc + 1) Ls rest))) : Go p e below s n0 k n Q (T.setTop (mkF m pc Ls (.int x :: .int j :: .ref a :: rest))) := by
  obtain ⟨e0, hz, locs, N, X⟩ := X
  have F0 := F
  obtain ⟨cl, A, r, -⟩ := F
  obtain ⟨T', h', X', e', W, st⟩ := Jvm.RoadKit.stB X C.hx C.hZ e0 A (j := j) (x := x) (AR.in (a := a) (ty := .byte) r hj hl) (g := mkF m pc Ls (.int x :: .int j :: .ref a :: rest)) rfl rfl (hb C.hby hd)
  exact Go.st st (K T' h' ⟨e', hz, _, Fr.snoc X' N ha, X'⟩ W (F0.same W))
theorem Con.back {y : MethodName} {rm : Room} {as : Array Value} {W : Nat} (H : Con l Z y bytes ml ret [] rm n0 as h Q) (hZ : Z.Warmed39 s.vm) (wc : (Jvm.Cond.code y bytes ml ret).before a0 Z = true) (wz : (Jvm.Cond.initialized y.cls).before a0 Z = true) (hf : rm.frames + 1 ≤ R.frames) (hl : W + (ml + 11) + rm.locals ≤ R.locals) :
    Back l R p e below s args y 3 W (fun A a => a = as ∧ A.U.heap = h ∧ A.cells + rm.cells ≤ R.cells ∧ A.slots + rm.slots ≤ R.slots)
      (fun A _ v B => ∃ L, (Q v B.U.heap ∧ Fr n0 L) ∧ B.locs = A.locs ++ L ∧ B.cells = A.cells + rm.cells ∧ B.slots = A.slots + rm.slots) :=
  backOf (Q := fun v h L => Q v h ∧ Fr n0 L) H hZ wc wz hf hl
theorem Go.callS (C : Ctx p s m meth c Z a0 ws own nm bytes ml ret) (X : St p l e R s m args below meth c n0 T h cells slots) {y : MethodName} {bytes' : ByteArray} {ml' : Nat} {ret' : Option FieldType} {rm : Room} {i W : Nat} {argsL : List Value} {Q' : Option Value → Heap → Prop} (w1 : Jvm.Cond.methodLink own i y ∈ ws) (w2 : Jvm.Cond.static y ∈ ws) (w3 : Jvm.Cond.initialized y.cls ∈ ws) (w4 : Jvm.Cond.code y bytes' ml' ret' ∈ ws) (hy : y.cls ≠ "java/lang/invoke/MethodHandle" ∧ y.cls ≠ "java/lang/invoke/VarHandle")
    (H : Con l Z y bytes' ml' ret' [] rm n0 argsL.toArray h Q') (hfr : rm.frames + 1 ≤ R.frames) (hlo : W + (ml' + 11) + rm.locals ≤ R.locals) (hsz : Ls.size = ml) (hlen : ∀ sig, parseMethodDescriptor y.desc = some sig → argsL.length = sig.parameters.length) (hW : (rest.map fun v => v.category).sum ≤ W) (hstk : stk = argsL.reverse ++ rest) (hd : decode bytes pc = .ok (.invokestatic i, 3)) (hce : cells + rm.cells ≤ R.cells) (hsl : slots + rm.slots ≤ R.slots) (K : ∀ T' h' v, St p l e R s m args below meth c n0 T' h' (cells + rm.cells) (slots + rm.slots) → Q' v h' → Go p e below s n0 k n Q (T'.setTop (mkF m (pc + 3) Ls (v.toList ++ rest)))) : Go p e below s n0 k n Q (T.setTop (mkF m pc Ls stk)) := by
  obtain ⟨e0, hz, locs, N, X⟩ := X
  obtain ⟨v, _, ⟨T', L', k', n'⟩, -, X', ⟨L, hQ, l1, y1, z1⟩, st⟩ := Jvm.LawKit.callS X C.hx (y := y) C.hown (mvT C.hZ (C.w w1)) (mvT C.hZ (C.w w2)) (mvT C.hZ (C.w w3)) (mvT C.hZ (C.w w4)) hy (H.back (W := W) C.hZ (C.w w4) (C.w w3) hfr hlo) (g := mkF m pc Ls stk) rfl (hsz.trans C.hml.symm) (argsL := argsL) (rest := rest) hlen hstk (by show 2 * 0 + _ ≤ _; omega) (hb C.hby hd) (fun _ _ => ⟨rfl, e0, hce, hsl⟩)
  dsimp only [Pt.U, Pt.locs, Pt.cells, Pt.slots] at X' l1 y1 z1 st hQ
  subst l1 y1 z1
  exact Go.st st (K T' _ v ⟨rfl, hz, _, N.app hQ.2, X'⟩ hQ.1)
theorem Go.callInit (C : Ctx p s m meth c Z a0 ws own nm bytes ml ret) (X : St p l e R s m args below meth c n0 T h cells slots) {y : MethodName} {bytes' : ByteArray} {ml' : Nat} {rm : Room} {i W : Nat} {argsL : List Value} {Q' : Option Value → Heap → Prop} {a : Addr} (hy1 : y.name = "<init>") (w1 : Jvm.Cond.methodLink own i y ∈ ws) (w2 : Jvm.Cond.instanceMethod y ∈ ws) (w3 : Jvm.Cond.initialized y.cls ∈ ws) (w4 : Jvm.Cond.code y bytes' ml' none ∈ ws) (hy : y.cls ≠ "java/lang/invoke/MethodHandle" ∧ y.cls ≠ "java/lang/invoke/VarHandle")
    (H : Con l Z y bytes' ml' none [] rm n0 (.ref a :: argsL).toArray h Q') (hfr : rm.frames + 1 ≤ R.frames) (hlo : W + (ml' + 11) + rm.locals ≤ R.locals) (hsz : Ls.size = ml) (hlen : ∀ sig, parseMethodDescriptor y.desc = some sig → argsL.length = sig.parameters.length) (hW : (rest.map fun v => v.category).sum ≤ W) (hstk : stk = argsL.reverse ++ .ref a :: rest) (hd : decode bytes pc = .ok (.invokespecial i, 3)) (hce : cells + rm.cells ≤ R.cells) (hsl : slots + rm.slots ≤ R.slots) (K : ∀ T' h' v, St p l e R s m args below meth c n0 T' h' (cells + rm.cells) (slots + rm.slots) → Q' v h' → Go p e below s n0 k n Q (T'.setTop (mkF m (pc + 3) Ls (v.toList ++ rest)))) : Go p e below s n0 k n Q (T.setTop (mkF m pc Ls stk)) := by
  obtain ⟨e0, hz, locs, N, X⟩ := X
  obtain ⟨v, _, ⟨T', L', k', n'⟩, -, X', ⟨L, hQ, l1, y1, z1⟩, st⟩ := X.specialBack C.hx (y := y) hy1 C.hown (mvT C.hZ (C.w w1)) (mvT C.hZ (C.w w2)) (mvT C.hZ (C.w w4)) hy (H.back (W := W) C.hZ (C.w w4) (C.w w3) hfr hlo) (g := mkF m pc Ls stk) rfl (hsz.trans C.hml.symm) (Steps.refl _) (a := a) (argsL := argsL) (rest := rest) hlen hstk (by show 2 * 0 + _ ≤ _; omega) (hb C.hby hd) (fun _ _ => ⟨rfl, e0, hce, hsl⟩)
  dsimp only [Pt.U, Pt.locs, Pt.cells, Pt.slots] at X' l1 y1 z1 st hQ
  subst l1 y1 z1
  exact Go.tr st (K T' _ v ⟨rfl, hz, _, N.app hQ.2, X'⟩ hQ.1)
theorem Go.callV (C : Ctx p s m meth c Z a0 ws own nm bytes ml ret) (X : St p l e R s m args below meth c n0 T h cells slots) {y : MethodName} {bytes' : ByteArray} {ml' : Nat} {ret' : Option FieldType} {rm : Room} {i W : Nat} {argsL : List Value} {Q' : Option Value → Heap → Prop} {a : Addr} {C1 : String} (E : Exa Z h a C1) (w1 : Jvm.Cond.methodLink own i y ∈ ws) (w2 : Jvm.Cond.declares y ∈ ws) (w5 : Jvm.Cond.selects C1 y y ∈ ws) (w6 : Jvm.Cond.instanceMethod y ∈ ws) (w3 : Jvm.Cond.initialized y.cls ∈ ws) (w4 : Jvm.Cond.code y bytes' ml' ret' ∈ ws) (hy : y.cls ≠ "java/lang/invoke/MethodHandle" ∧ y.cls ≠ "java/lang/invoke/VarHandle") (hC1 : C1 = y.cls)
    (H : Con l Z y bytes' ml' ret' [] rm n0 (.ref a :: argsL).toArray h Q') (hfr : rm.frames + 1 ≤ R.frames) (hlo : W + (ml' + 11) + rm.locals ≤ R.locals) (hsz : Ls.size = ml) (hlen : ∀ sig, parseMethodDescriptor y.desc = some sig → argsL.length = sig.parameters.length) (hW : (rest.map fun v => v.category).sum ≤ W) (hstk : stk = argsL.reverse ++ .ref a :: rest) (hd : decode bytes pc = .ok (.invokevirtual i, 3)) (hce : cells + rm.cells ≤ R.cells) (hsl : slots + rm.slots ≤ R.slots) (K : ∀ T' h' v, St p l e R s m args below meth c n0 T' h' (cells + rm.cells) (slots + rm.slots) → Q' v h' → Go p e below s n0 k n Q (T'.setTop (mkF m (pc + 3) Ls (v.toList ++ rest)))) : Go p e below s n0 k n Q (T.setTop (mkF m pc Ls stk)) := by
  subst hC1
  obtain ⟨e0, hz, locs, N, X⟩ := X
  obtain ⟨cq, kq, qa, qb, qc⟩ := isOf (T := T) C.hZ e0 E
  obtain ⟨v, _, ⟨T', L', k', n'⟩, -, X', ⟨L, hQ, l1, y1, z1⟩, st⟩ := X.virtualBack C.hx (y := y) (z := y) C.hown (mvT C.hZ (C.w w1)) (mvT C.hZ (C.w w2)) (notFace_of_selects (args := #[]) (mvT C.hZ (C.w w5))) (mvT C.hZ (C.w w5)) (mvT C.hZ (C.w w6)) hy (H.back (W := W) C.hZ (C.w w4) (C.w w3) hfr hlo) qa qc (g := mkF m pc Ls stk) rfl (hsz.trans C.hml.symm) (Steps.refl _) (argsL := argsL) (rest := rest) hlen hstk (by show 2 * 0 + _ ≤ _; omega) (hb C.hby hd) (fun _ _ => ⟨rfl, e0, hce, hsl⟩)
  dsimp only [Pt.U, Pt.locs, Pt.cells, Pt.slots] at X' l1 y1 z1 st hQ
  subst l1 y1 z1
  exact Go.tr st (K T' _ v ⟨rfl, hz, _, N.app hQ.2, X'⟩ hQ.1)
theorem Go.initO (C : Ctx p s m meth c Z a0 ws own nm bytes ml ret) (X : St p l e R s m args below meth c n0 T h cells slots) {i W : Nat} {a : Addr} (w1 : Jvm.Cond.methodLink own i Lib.objectInit ∈ ws) (w2 : Jvm.Cond.instanceMethod Lib.objectInit ∈ ws) (w3 : Jvm.Cond.code Lib.objectInit ⟨#[0xb1]⟩ 1 none ∈ ws) (hsz : Ls.size = ml) (hd : decode bytes pc = .ok (.invokespecial i, 3)) (hf : 1 ≤ R.frames) (hW : (rest.map fun v => v.category).sum ≤ W) (hl : W + 12 ≤ R.locals) (K : ∀ T', St p l e R s m args below meth c n0 T' h cells slots → Go p e below s n0 k n Q (T'.setTop (mkF m (pc + 3) Ls rest))) : Go p e below s n0 k n Q (T.setTop (mkF m pc Ls (.ref a :: rest))) := by
  obtain ⟨e0, hz, locs, N, X⟩ := X
  obtain ⟨T', X', e', st⟩ := Jvm.RoadKit.initO X C.hx C.hZ C.hown (C.w w1) (C.w w2) (C.w w3) e0 (g := mkF m pc Ls (.ref a :: rest)) rfl (hsz.trans C.hml.symm) rfl (hb C.hby hd) hf (W := W) (by show 2 * 0 + _ ≤ _; omega) hl
  exact Go.st st (K T' ⟨e', hz, locs, N, X'⟩)
theorem Go.ldcI (C : Ctx p s m meth c Z a0 ws own nm bytes ml ret) (X : St p l e R s m args below meth c n0 T h cells slots) {i : Nat} {x : Int32} (w : Jvm.Cond.constant own i x ∈ ws) (hd : decode bytes pc = .ok (.ldc i, 2)) (K : Go p e below s n0 k n Q (T.setTop (mkF m (pc + 2) Ls (.int x :: stk)))) : Go p e below s n0 k n Q (T.setTop (mkF m pc Ls stk)) := by
  obtain ⟨e0, hz, locs, N, X⟩ := X
  exact Go.st (fun _ => X.ldcI (g := mkF m pc Ls stk) C.hx C.hown (mvT C.hZ (C.w w)) rfl (hb C.hby hd)) K
theorem Go.ldcW (C : Ctx p s m meth c Z a0 ws own nm bytes ml ret) (X : St p l e R s m args below meth c n0 T h cells slots) {i : Nat} {x : Int32} (w : Jvm.Cond.constant own i x ∈ ws) (hd : decode bytes pc = .ok (.ldc_w i, 3)) (K : Go p e below s n0 k n Q (T.setTop (mkF m (pc + 3) Ls (.int x :: stk)))) : Go p e below s n0 k n Q (T.setTop (mkF m pc Ls stk)) := by
  obtain ⟨e0, hz, locs, N, X⟩ := X
  exact Go.st (fun _ => X.ldcWI (g := mkF m pc Ls stk) C.hx C.hown (mvT C.hZ (C.w w)) rfl (hb C.hby hd)) K
theorem Go.ldcJ (C : Ctx p s m meth c Z a0 ws own nm bytes ml ret) (X : St p l e R s m args below meth c n0 T h cells slots) {i : Nat} {x : Int64} (w : Jvm.Cond.constantLong own i x ∈ ws) (hd : decode bytes pc = .ok (.ldc2_w i, 3)) (K : Go p e below s n0 k n Q (T.setTop (mkF m (pc + 3) Ls (.long x :: stk)))) : Go p e below s n0 k n Q (T.setTop (mkF m pc Ls stk)) := by
  obtain ⟨e0, hz, locs, N, X⟩ := X
  exact Go.st (fun _ => X.ldc2J (g := mkF m pc Ls stk) C.hx C.hown (mvT C.hZ (C.w w)) rfl (hb C.hby hd)) K
theorem Go.irem (C : Ctx p s m meth c Z a0 ws own nm bytes ml ret) (X : St p l e R s m args below meth c n0 T h cells slots) {x y : Int32} (hy : y ≠ 0) (hd : decode bytes pc = .ok (.irem, 1)) (K : Go p e below s n0 k n Q (T.setTop (mkF m (pc + 1) Ls (.int (x % y) :: rest)))) : Go p e below s n0 k n Q (T.setTop (mkF m pc Ls (.int y :: .int x :: rest))) := by
  obtain ⟨e0, hz, locs, N, X⟩ := X
  exact Go.st (fun _ => Jvm.RoadKit.iremM (g := mkF m pc Ls (.int y :: .int x :: rest)) X C.hx rfl (hb C.hby hd) rfl hy) K
theorem Go.lrem (C : Ctx p s m meth c Z a0 ws own nm bytes ml ret) (X : St p l e R s m args below meth c n0 T h cells slots) {x y : Int64} (hy : y ≠ 0) (hd : decode bytes pc = .ok (.lrem, 1)) (K : Go p e below s n0 k n Q (T.setTop (mkF m (pc + 1) Ls (.long (x % y) :: rest)))) : Go p e below s n0 k n Q (T.setTop (mkF m pc Ls (.long y :: .long x :: rest))) := by
  refine Go.st (fun _ => XS.lrem (g := mkF m pc Ls (.long y :: .long x :: rest)) X.here C.hx rfl (hb C.hby hd) rfl hy) ?_
  rw [lrem_mod]
  exact K
theorem Go.dupX2 (C : Ctx p s m meth c Z a0 ws own nm bytes ml ret) (X : St p l e R s m args below meth c n0 T h cells slots) {x y z : Value} (h1 : x.category = 1) (h2 : y.category = 1) (h3 : z.category = 1) (hd : decode bytes pc = .ok (.dup_x2, 1)) (K : Go p e below s n0 k n Q (T.setTop (mkF m (pc + 1) Ls (x :: y :: z :: x :: rest)))) : Go p e below s n0 k n Q (T.setTop (mkF m pc Ls (x :: y :: z :: rest))) := by
  refine Go.st (fun t hr => ?_) K
  have hx := C.hx
  have hd' := hb C.hby hd
  jvm_step X.here [X.here.top, hx, hd', h1, h2, h3]
  exact hr
theorem eqI_v {args : Array Value} {first s : State} {o : Option Outcome} {idx : List Nat} {t : Term} {z : Int32} (q : (Jvm.Cond.eq t (Term.int z)).value args first o s idx = some true) : t.eval args first o idx s = some (.int z) := by
  obtain ⟨x, y, ha, hb, k1, k2⟩ := cmp_v (Or.inl q)
  have hy : y = .int z := by
    have r := Term.int_eval (args := args) (first := first) (o := o) (idx := idx) (s := s) z
    rw [r] at hb; exact (Option.some.inj hb).symm
  subst hy
  obtain ⟨u, rfl⟩ := k2
  rw [ha, gotT (Cond.eq_ints ha hb) q]
theorem fieldNe {args : Array Value} {first s : State} {o : Option Outcome} {idx : List Nat} {t t' : Term} {C f d : String} {a b : Addr} {z z' : Int32} (h1 : t.eval args first o idx s = some (.ref a)) (h2 : t'.eval args first o idx s = some (.ref b)) (q1 : (Jvm.Cond.eq (Term.field t C f d) (Term.int z)).value args first o s idx = some true) (q2 : (Jvm.Cond.eq (Term.field t' C f d) (Term.int z')).value args first o s idx = some true) (hz : z ≠ z') : a ≠ b := by
  intro r; subst r
  have e1 := eqI_v q1; have e2 := eqI_v q2
  rw [fld_at h1] at e1; rw [fld_at h2] at e2
  rw [e1] at e2
  cases e2; exact hz rfl
/-- an array whose elements are known and that may be cloned -/
def AF (Z : State) (h : Heap) (a : Addr) (ty : FieldType) (vs : List Value) : Prop := ∃ c : Cell, Arr Z h a c ty ∧ c.slots = vs.toArray ∧ vs.length < 2 ^ 31 ∧ FitC Z c
theorem AF.ar {a : Addr} {ty : FieldType} {vs : List Value} (F : AF Z h a ty vs) : AR Z h a ty vs := by obtain ⟨c, A, r, q, -⟩ := F; exact ⟨c, A, r, q⟩
theorem Go.clone (C : Ctx p s m meth c Z a0 ws own nm bytes ml ret) (X : St p l e R s m args below meth c n0 T h cells slots) {ad : String} {i W cap : Nat} {a : Addr} {ty : FieldType} {vs : List Value} (w1 : Jvm.Cond.methodLink own i ⟨ad, "clone", "()Ljava/lang/Object;"⟩ ∈ ws) (w2 : Jvm.Cond.sameMethod ad "java/lang/Object" "clone" "()Ljava/lang/Object;" ∈ ws) (w3 : Jvm.Cond.native ⟨"java/lang/Object", "clone", "()Ljava/lang/Object;"⟩ ∈ ws) (w4 : Jvm.Cond.instanceMethod ⟨"java/lang/Object", "clone", "()Ljava/lang/Object;"⟩ ∈ ws)
    (w5 : Jvm.Cond.selects ad ⟨ad, "clone", "()Ljava/lang/Object;"⟩ ⟨"java/lang/Object", "clone", "()Ljava/lang/Object;"⟩ ∈ ws) (w6 : Jvm.Cond.castable ad "java/lang/Cloneable" ∈ ws) (F : AF Z h a ty vs) (E : Exa Z h a ad) (hsz : Ls.size = ml) (hd : decode bytes pc = .ok (.invokevirtual i, 3)) (hf : 1 ≤ R.frames) (hW : (rest.map fun v => v.category).sum ≤ W) (hl : W + 14 ≤ R.locals) (hcap : vs.length ≤ cap) (hc : cells + 1 ≤ R.cells) (hsl : slots + cap ≤ R.slots)
    (K : ∀ T' h' b, h.size = b → n0 ≤ b → St p l e R s m args below meth c n0 T' h' (cells + 1) (slots + cap) → Ext h h' → AR Z h' b ty vs → Exa Z h' b ad → Go p e below s n0 k n Q (T'.setTop (mkF m (pc + 3) Ls (.ref b :: rest)))) : Go p e below s n0 k n Q (T.setTop (mkF m pc Ls (.ref a :: rest))) := by
  have hs := X.size
  obtain ⟨e0, hz, locs, N, X⟩ := X
  obtain ⟨cl, A, r, q, FC⟩ := F
  obtain ⟨T', h', X', e', Ex, A', E', st⟩ := Jvm.RoadKit.cloneA X C.hx C.hZ C.hown (C.w w1) (C.w w2) (C.w w3) (C.w w4) (C.w w5) (C.w w6) e0 A E FC (g := mkF m pc Ls (.ref a :: rest)) rfl (hsz.trans C.hml.symm) rfl (hb C.hby hd) hf (W := W) (cap := cap) (by show 2 * 0 + _ ≤ _; omega) hl (by rw [r]; simpa using hcap) hc hsl
  exact Go.st st (K T' h' _ rfl hs ⟨e', hz, _, N, X'⟩ Ex ⟨_, A', r, q⟩ E')
theorem Go.cast (C : Ctx p s m meth c Z a0 ws own nm bytes ml ret) (X : St p l e R s m args below meth c n0 T h cells slots) {i : Nat} {K1 : String} {a : Addr} (w : Jvm.Cond.classLink own i K1 ∈ ws) (F : Ins Z h a K1 true) (hd : decode bytes pc = .ok (.checkcast i, 3)) (K : ∀ T', St p l e R s m args below meth c n0 T' h cells slots → Go p e below s n0 k n Q (T'.setTop (mkF m (pc + 3) Ls (.ref a :: rest)))) : Go p e below s n0 k n Q (T.setTop (mkF m pc Ls (.ref a :: rest))) := by
  obtain ⟨e0, hz, locs, N, X⟩ := X
  obtain ⟨T', X', e', st⟩ := Jvm.RoadKit.castY X C.hx C.hZ C.hown (C.w w) e0 F (g := mkF m pc Ls (.ref a :: rest)) rfl rfl (hb C.hby hd)
  exact Go.st st (K T' ⟨e', hz, locs, N, X'⟩)
theorem elemRef {args : Array Value} {s : State} {t t' : Term} {a x : Addr} {cl : Cell} {j : Int32} (q : (Jvm.Cond.eq (Term.elem t (Term.int j)) t').value args s none s [] = some true) (ht : t.eval args s none [] s = some (.ref a)) (ht' : t'.eval args s none [] s = some (.ref x)) (hc : s.heap[a]? = some cl) : cl.slots[j.toNatClampNeg]? = some (.ref x) := by
  obtain ⟨u, v, ha, hb, k1, k2⟩ := cmp_v (Or.inl q)
  rw [ht'] at hb
  cases hb
  have e := gotT (eq_R ha ht' k2.2 rfl) q
  subst e
  exact (elem_in ha ht (Term.int_eval j) hc).2
theorem fldI {args : Array Value} {s : State} {t : Term} {a : Addr} {C f d : String} {z : Int32} (q : (Jvm.Cond.eq (Term.field t C f d) (Term.int z)).value args s none s [] = some true) (ht : t.eval args s none [] s = some (.ref a)) : Fld s s.heap a C f d (.int z) := by
  have e := eqI_v q
  rw [fld_at ht] at e
  exact Fld.start e
theorem lenOf' {args : Array Value} {s : State} {t : Term} {a : Addr} {cl : Cell} {ty : FieldType} {z : Int32} (q : (Jvm.Cond.eq (Term.length t) (Term.int z)).value args s none s [] = some true) (ht : t.eval args s none [] s = some (.ref a)) (A : Arr s s.heap a cl ty) : cl.slots.size.toInt32 = z ∧ cl.slots.size < 2 ^ 31 := by
  obtain ⟨b, cell, h1, h2, h3, h4⟩ := Jvm.Lib.length_spec (eqI_v q)
  rw [ht] at h1
  cases h1
  rw [A.fin (Vm.Alike.refl _)] at h2
  cases h2
  exact ⟨(Value.int.inj h4).symm, h3⟩
theorem Go.newPE (C : Ctx p s m meth c Z a0 ws own nm bytes ml ret) (X : St p l e R s m args below meth c n0 T h cells slots) {aty : ArrayType} {z : Int32} {cap : Nat} {ad : String} (w : Jvm.Cond.arrayClass (newarray.typeOf aty) ∈ ws) (had : "[" ++ (newarray.typeOf aty).toString = ad) (hd : decode bytes pc = .ok (.newarray aty, 2)) (hn : ¬ z < 0) (hcap : z.toNatClampNeg ≤ cap) (hb8 : cap * 8 ≤ 536870912) (hc : cells + 1 ≤ R.cells) (hl : slots + cap ≤ R.slots)
    (K : ∀ T' h' b, h.size = b → n0 ≤ b → St p l e R s m args below meth c n0 T' h' (cells + 1) (slots + cap) → Ext h h' → AR Z h' b (newarray.typeOf aty) (List.replicate z.toNatClampNeg (defaultValue (newarray.typeOf aty))) → Exa Z h' b ad → Go p e below s n0 k n Q (T'.setTop (mkF m (pc + 2) Ls (.ref b :: rest)))) : Go p e below s n0 k n Q (T.setTop (mkF m pc Ls (.int z :: rest))) := by
  have hs := X.size
  obtain ⟨e0, hz, locs, N, X⟩ := X
  obtain ⟨T', h', cA, X', e', E, F, EX, st⟩ := Jvm.RoadKit.newPE X C.hx C.hZ (C.w w) e0 (g := mkF m pc Ls (.int z :: rest)) rfl (hb C.hby hd) rfl hn hcap hb8 hc hl had
  exact Go.st st (K T' h' _ rfl hs ⟨e', hz, _, N, X'⟩ E (AR.of F hn) EX)
theorem AF.zero {a : Addr} {N : Nat} (F : AR Z h a .byte (List.replicate N (.int (0 : Int32)))) : AF Z h a .byte (List.replicate N (.int (0 : Int32))) := by
  obtain ⟨c, A, r, q⟩ := F
  refine ⟨c, A, r, q, fitC_of A fun i hi v hv => ?_⟩
  rw [r, List.getElem?_toArray, List.getElem?_replicate] at hv
  split at hv
  · cases hv; rfl
  · cases hv
theorem AR.arv0 {a : Addr} {N : Nat} (F : AR Z h a .byte (List.replicate N (.int (0 : Int32)))) : ∃ k, Arv Z h a k .byte N.toInt32 (List.replicate N (.int (0 : Int32))) (.int (0 : Int32)) := by
  obtain ⟨c, A, r, q⟩ := F
  rw [List.length_replicate] at q
  have sz : c.slots.size = N := by rw [r]; simp
  have cN : N.toInt32.toNatClampNeg = N := by simp only [Int32.toNatClampNeg, len_toInt q]; rfl
  have g0 : ∀ i, (List.replicate N (Value.int (0 : Int32))).getD i (.int (0 : Int32)) = .int (0 : Int32) := fun i => by
    rw [List.getD_eq_getElem?_getD, List.getElem?_replicate]; split <;> rfl
  refine ⟨c.cls, c, A, rfl, by rw [sz, cN], ?_, fun i hi => ?_, fun i _ => by rw [g0]; rfl⟩
  · rw [Int32.lt_iff_toInt_lt, len_toInt q]
    have h0 : (0 : Int32).toInt = 0 := rfl
    omega
  · rw [g0, r]
    rw [sz] at hi
    simp [List.getElem?_replicate, hi]
theorem Arv.ar0 {a : Addr} {k : ClassId} {N : Nat} {vs : List Value} (hN : N < 2 ^ 31) (F : Arv Z h a k .byte N.toInt32 vs (.int (0 : Int32))) (hv : ∀ i, vs.getD i (.int (0 : Int32)) = .int (0 : Int32)) : AR Z h a .byte (List.replicate N (.int (0 : Int32))) := by
  obtain ⟨c, A, -, S, -, H, -⟩ := F
  have cN : N.toInt32.toNatClampNeg = N := by simp only [Int32.toNatClampNeg, len_toInt hN]; rfl
  rw [cN] at S
  refine ⟨c, A, ?_, by rw [List.length_replicate]; exact hN⟩
  apply Array.ext_getElem?
  intro i
  by_cases q : i < N
  · rw [H i (by omega), hv]; simp [List.getElem?_replicate, q]
  · rw [Array.getElem?_eq_none (by omega), Array.getElem?_eq_none (by simp; omega)]
theorem Go.acopy0 (C : Ctx p s m meth c Z a0 ws own nm bytes ml ret) (X : St p l e R s m args below meth c n0 T h cells slots) {i W : Nat} {a b : Addr} {n1 n2 : Nat} {nn : Int32} (w1 : Jvm.Cond.methodLink own i Jvm.Stand.acN ∈ ws) (w2 : Jvm.Cond.native Jvm.Stand.acN ∈ ws) (w3 : Jvm.Cond.static Jvm.Stand.acN ∈ ws) (w4 : Jvm.Cond.initialized "java/lang/System" ∈ ws) (F1 : AR Z h a .byte (List.replicate n1 (.int (0 : Int32)))) (F2 : AR Z h b .byte (List.replicate n2 (.int (0 : Int32)))) (hnn : ¬ nn < 0) (h1 : nn.toNatClampNeg ≤ n1) (h2 : nn.toNatClampNeg ≤ n2) (gb : n0 ≤ b) (hsz : Ls.size = ml)
    (hd : decode bytes pc = .ok (.invokestatic i, 3)) (hf : 1 ≤ R.frames) (hW : (rest.map fun v => v.category).sum ≤ W) (hlo : W + (nativeFrameWords "java/lang/System" "arraycopy" 5 + 11) ≤ R.locals)
    (K : ∀ T' h', St p l e R s m args below meth c n0 T' h' cells slots → Keep h h' [b] → AR Z h' b .byte (List.replicate n2 (.int (0 : Int32))) → Go p e below s n0 k n Q (T'.setTop (mkF m (pc + 3) Ls rest))) : Go p e below s n0 k n Q (T.setTop (mkF m pc Ls (.int nn :: .int 0 :: .ref b :: .int 0 :: .ref a :: rest))) := by
  obtain ⟨e0, hz, locs, N, X⟩ := X
  obtain ⟨k1, V1⟩ := F1.arv0
  obtain ⟨k2, V2⟩ := F2.arv0
  have q1 : n1 < 2 ^ 31 := by obtain ⟨_, _, _, q⟩ := F1; rw [List.length_replicate] at q; exact q
  have q2 : n2 < 2 ^ 31 := by obtain ⟨_, _, _, q⟩ := F2; rw [List.length_replicate] at q; exact q
  have c1 : n1.toInt32.toNatClampNeg = n1 := by simp only [Int32.toNatClampNeg, len_toInt q1]; rfl
  have c2 : n2.toInt32.toNatClampNeg = n2 := by simp only [Int32.toNatClampNeg, len_toInt q2]; rfl
  have z0 : (0 : Int32).toNatClampNeg = 0 := rfl
  obtain ⟨T', h', L, X', e', N', KK, V', st⟩ := cpA X C.hx C.hZ C.hown (C.w w1) (C.w w2) (C.w w3) (C.w w4) e0 V1 V2 (sp := 0) (dp := 0) (nn := nn) (Or.inl ⟨rfl, rfl⟩) (by decide) (by decide) hnn (by rw [z0, c1]; omega) (by rw [z0, c2]; omega) rfl (by rw [z0, List.length_replicate]; omega) N gb (g := mkF m pc Ls (.int nn :: .int 0 :: .ref b :: .int 0 :: .ref a :: rest)) rfl (hsz.trans C.hml.symm) rfl (hb C.hby hd) hf (W := W) (by show 2 * 0 + _ ≤ _; omega) hlo
  refine Go.st st (K T' h' ⟨e', hz, L, N', X'⟩ KK (Arv.ar0 q2 V' fun j => ?_))
  have g0 : ∀ (vs : List Value), (∀ x ∈ vs, x = .int (0 : Int32)) → vs.getD j (.int (0 : Int32)) = .int (0 : Int32) := fun vs hv => by
    rw [List.getD_eq_getElem?_getD]
    cases hq : vs[j]? with
    | none => rfl
    | some x => exact hv x (List.mem_of_getElem? hq)
  refine g0 _ fun x hx => ?_
  rcases List.mem_append.mp hx with hx | hx
  · rcases List.mem_append.mp hx with hx | hx
    · rw [z0] at hx; simp at hx
    · obtain ⟨y, -, rfl⟩ := List.mem_map.mp hx
      rw [List.getD_eq_getElem?_getD, List.getElem?_replicate]; split <;> rfl
  · exact (List.mem_replicate.mp (List.mem_of_mem_drop hx)).2
end One
end Jvm.OwnGo
namespace Jvm.Pilot.@@N@@
open Jvm Jvm.ClassFile Sem Op Lib Jvm.Free Jvm.Stand Jvm.LawKit Jvm.RoadKit Bundle Jvm.OwnGo Jvm.Pilot.@@N@@.Jvm.D
theorem d1_0 : decode prog_95_method_7_code 0 = .ok (.iload_n 1, 1) := by decide +kernel
theorem d1_1 : decode prog_95_method_7_code 1 = .ok (.istore_n 2, 1) := by decide +kernel
theorem d1_2 : decode prog_95_method_7_code 2 = .ok (.iload_n 2, 1) := by decide +kernel
theorem d1_3 : decode prog_95_method_7_code 3 = .ok (.aload_n 0, 1) := by decide +kernel
theorem d1_4 : decode prog_95_method_7_code 4 = .ok (.arraylength, 1) := by decide +kernel
theorem d1_5 : decode prog_95_method_7_code 5 = .ok (.if_icmp .ge 19, 3) := by decide +kernel
theorem d1_8 : decode prog_95_method_7_code 8 = .ok (.aload_n 0, 1) := by decide +kernel
theorem d1_9 : decode prog_95_method_7_code 9 = .ok (.iload_n 2, 1) := by decide +kernel
theorem d1_10 : decode prog_95_method_7_code 10 = .ok (.laload, 1) := by decide +kernel
theorem d1_11 : decode prog_95_method_7_code 11 = .ok (.lconst 0, 1) := by decide +kernel
theorem d1_12 : decode prog_95_method_7_code 12 = .ok (.lcmp, 1) := by decide +kernel
theorem d1_13 : decode prog_95_method_7_code 13 = .ok (.ifCond .eq 5, 3) := by decide +kernel
theorem d1_16 : decode prog_95_method_7_code 16 = .ok (.iconst 0, 1) := by decide +kernel
theorem d1_17 : decode prog_95_method_7_code 17 = .ok (.ireturn, 1) := by decide +kernel
theorem d1_18 : decode prog_95_method_7_code 18 = .ok (.iinc 2 1, 3) := by decide +kernel
theorem d1_21 : decode prog_95_method_7_code 21 = .ok (.goto (-19), 3) := by decide +kernel
theorem d1_24 : decode prog_95_method_7_code 24 = .ok (.iconst 1, 1) := by decide +kernel
theorem d1_25 : decode prog_95_method_7_code 25 = .ok (.ireturn, 1) := by decide +kernel
theorem pf_1 : plainFor (⟨"com/example/strict_attest/strictattest/evidence/signature/Limbs", "isZero", "([JI)Z"⟩ : MethodName) = true := plainFor_of_name (by first | (simp [plainName, overriddenIn]; done) | decide +kernel)
theorem pd_1 : parseMethodDescriptor "([JI)Z" = some ⟨[(.array .long), .int], some .boolean⟩ := by decide +kernel
def isz (k : Int32) (l0 l1 l2 l3 : Int64) : Int32 := if (0 < k ∨ l0 = 0) ∧ (1 < k ∨ l1 = 0) ∧ (2 < k ∨ l2 = 0) ∧ (3 < k ∨ l3 = 0) then 1 else 0
theorem five (k : Int32) (h : ¬ k < 0) : k = 0 ∨ k = 1 ∨ k = 2 ∨ k = 3 ∨ 3 < k := by
  simp only [Int32.lt_iff_toInt_lt, ← Int32.toInt_inj] at h ⊢
  have h0 : (0 : Int32).toInt = 0 := rfl
  have h1 : (1 : Int32).toInt = 1 := rfl
  have h2 : (2 : Int32).toInt = 2 := rfl
  have h3 : (3 : Int32).toInt = 3 := rfl
  omega
theorem big (k : Int32) (h : 3 < k) : ¬ k < 4 ∧ 0 < k ∧ 1 < k ∧ 2 < k := by
  simp only [Int32.lt_iff_toInt_lt] at h ⊢
  have h0 : (0 : Int32).toInt = 0 := rfl
  have h1 : (1 : Int32).toInt = 1 := rfl
  have h2 : (2 : Int32).toInt = 2 := rfl
  have h3 : (3 : Int32).toInt = 3 := rfl
  have h4 : (4 : Int32).toInt = 4 := rfl
  omega
theorem nn7 (f : Int32) : ¬ (f &&& (7 : Int32)) < 0 := by
  have h := (c_and f 7 (by decide)).1
  rw [Int32.lt_iff_toInt_lt]
  have h0 : (0 : Int32).toInt = 0 := rfl
  omega
theorem nn31 (f : Int32) : ¬ (f &&& (2147483647 : Int32)) < 0 := by
  have h := (c_and f 2147483647 (by decide)).1
  rw [Int32.lt_iff_toInt_lt]
  have h0 : (0 : Int32).toInt = 0 := rfl
  omega
set_option maxRecDepth 65536 in
set_option maxHeartbeats 40000000 in
theorem con_isZero (l : Launch) (Z : State) (a0 : Array Value) (hw : ∀ d ∈ tables_1, d.before a0 Z = true) (n0 : Nat) (h0 : Heap) (Z0 : n0 ≤ h0.size) (a : Addr) (k : Int32) (l0 l1 l2 l3 : Int64) (A : AR Z h0 a .long [.long l0, .long l1, .long l2, .long l3]) (hk : ¬ k < 0) :
    Con l Z (⟨"com/example/strict_attest/strictattest/evidence/signature/Limbs", "isZero", "([JI)Z"⟩ : MethodName) prog_95_method_7_code 3 (some .boolean) [] ({ frames := 0, cells := 0, slots := 0, locals := 0 } : Room) n0 #[(.ref a), (.int k)] h0 (fun v h => v = some (.int (isz k l0 l1 l2 l3)) ∧ h = h0) := by
  refine Con.mk pf_1 hw Z0 ?_
  intro p e s m below meth c T0 C X0
  have ef : entryFrame m #[(.ref a), (.int k)] 3 = mkF m 0 #[.val (.ref a), .val (.int k), .unset] [] := by first | (simp [entryFrame, mkF, argsToLocals, Value.category]; done) | rfl
  rw [ef]
  rcases five k hk with rfl | rfl | rfl | rfl | hb4
  · show Go p e below s n0 _ _ _ (T0.setTop (mkF m 0 #[.val (.ref a), .val (.int (0 : Int32)), .unset] []))
    refine Go.st (fun _ => XS.iloadN X0.here C.hx rfl (hb C.hby d1_0) rfl) ?_
    show Go p e below s n0 _ _ _ (T0.setTop (mkF m 1 #[.val (.ref a), .val (.int (0 : Int32)), .unset] [(.int (0 : Int32))]))
    refine Go.st (fun _ => XS.istoreN X0.here C.hx rfl (hb C.hby d1_1) rfl (l' := #[.val (.ref a), .val (.int (0 : Int32)), .val (.int (0 : Int32))]) rfl) ?_
    show Go p e below s n0 _ _ _ (T0.setTop (mkF m 2 #[.val (.ref a), .val (.int (0 : Int32)), .val (.int (0 : Int32))] []))
    refine Go.st (fun _ => XS.iloadN X0.here C.hx rfl (hb C.hby d1_2) rfl) ?_
    show Go p e below s n0 _ _ _ (T0.setTop (mkF m 3 #[.val (.ref a), .val (.int (0 : Int32)), .val (.int (0 : Int32))] [(.int (0 : Int32))]))
    refine Go.st (fun _ => XS.aloadN X0.here C.hx rfl (hb C.hby d1_3) rfl rfl) ?_
    show Go p e below s n0 _ _ _ (T0.setTop (mkF m 4 #[.val (.ref a), .val (.int (0 : Int32)), .val (.int (0 : Int32))] [(.ref a), (.int (0 : Int32))]))
    refine Go.alen C X0 A (z := (4 : Int32)) rfl d1_4 ?_
    show Go p e below s n0 _ _ _ (T0.setTop (mkF m 5 #[.val (.ref a), .val (.int (0 : Int32)), .val (.int (0 : Int32))] [(.int (4 : Int32)), (.int (0 : Int32))]))
    refine Go.icmp_ge C X0 (pc' := 24) d1_5 (by decide) (by decide) (fun hc => absurd hc (by decide)) (fun _ => ?_)
    show Go p e below s n0 _ _ _ (T0.setTop (mkF m 8 #[.val (.ref a), .val (.int (0 : Int32)), .val (.int (0 : Int32))] []))
    refine Go.st (fun _ => XS.aloadN X0.here C.hx rfl (hb C.hby d1_8) rfl rfl) ?_
    show Go p e below s n0 _ _ _ (T0.setTop (mkF m 9 #[.val (.ref a), .val (.int (0 : Int32)), .val (.int (0 : Int32))] [(.ref a)]))
    refine Go.st (fun _ => XS.iloadN X0.here C.hx rfl (hb C.hby d1_9) rfl) ?_
    show Go p e below s n0 _ _ _ (T0.setTop (mkF m 10 #[.val (.ref a), .val (.int (0 : Int32)), .val (.int (0 : Int32))] [(.int (0 : Int32)), (.ref a)]))
    refine Go.laload C X0 A (by decide) rfl d1_10 ?_
    show Go p e below s n0 _ _ _ (T0.setTop (mkF m 11 #[.val (.ref a), .val (.int (0 : Int32)), .val (.int (0 : Int32))] [(.long l0)]))
    refine Go.st (fun _ => XS.lconst X0.here C.hx rfl (hb C.hby d1_11)) ?_
    show Go p e below s n0 _ _ _ (T0.setTop (mkF m 12 #[.val (.ref a), .val (.int (0 : Int32)), .val (.int (0 : Int32))] [(.long (0 : Int64)), (.long l0)]))
    refine Go.st (fun _ => XS.lcmp X0.here C.hx rfl (hb C.hby d1_12) rfl) ?_
    show Go p e below s n0 _ _ _ (T0.setTop (mkF m 13 #[.val (.ref a), .val (.int (0 : Int32)), .val (.int (0 : Int32))] [(.int (lcmpW l0 (0 : Int64)))]))
    refine Go.lif_eq C X0 (pc' := 18) d1_13 (by decide) (by decide) (fun hc13_102 => ?_) (fun hc13_102 => ?_)
    · show Go p e below s n0 _ _ _ (T0.setTop (mkF m 18 #[.val (.ref a), .val (.int (0 : Int32)), .val (.int (0 : Int32))] []))
      refine Go.st (fun _ => XS.iinc X0.here C.hx rfl (hb C.hby d1_18) rfl (l' := #[.val (.ref a), .val (.int (0 : Int32)), .val (.int (1 : Int32))]) rfl) ?_
      show Go p e below s n0 _ _ _ (T0.setTop (mkF m 21 #[.val (.ref a), .val (.int (0 : Int32)), .val (.int (1 : Int32))] []))
      refine Go.st (fun _ => XS.goto X0.here C.hx rfl (pc0 := 21) (pc' := 2) rfl (hb C.hby d1_21) (by decide) (by decide)) ?_
      show Go p e below s n0 _ _ _ (T0.setTop (mkF m 2 #[.val (.ref a), .val (.int (0 : Int32)), .val (.int (1 : Int32))] []))
      refine Go.st (fun _ => XS.iloadN X0.here C.hx rfl (hb C.hby d1_2) rfl) ?_
      show Go p e below s n0 _ _ _ (T0.setTop (mkF m 3 #[.val (.ref a), .val (.int (0 : Int32)), .val (.int (1 : Int32))] [(.int (1 : Int32))]))
      refine Go.st (fun _ => XS.aloadN X0.here C.hx rfl (hb C.hby d1_3) rfl rfl) ?_
      show Go p e below s n0 _ _ _ (T0.setTop (mkF m 4 #[.val (.ref a), .val (.int (0 : Int32)), .val (.int (1 : Int32))] [(.ref a), (.int (1 : Int32))]))
      refine Go.alen C X0 A (z := (4 : Int32)) rfl d1_4 ?_
      show Go p e below s n0 _ _ _ (T0.setTop (mkF m 5 #[.val (.ref a), .val (.int (0 : Int32)), .val (.int (1 : Int32))] [(.int (4 : Int32)), (.int (1 : Int32))]))
      refine Go.icmp_ge C X0 (pc' := 24) d1_5 (by decide) (by decide) (fun hc => absurd hc (by decide)) (fun _ => ?_)
      show Go p e below s n0 _ _ _ (T0.setTop (mkF m 8 #[.val (.ref a), .val (.int (0 : Int32)), .val (.int (1 : Int32))] []))
      refine Go.st (fun _ => XS.aloadN X0.here C.hx rfl (hb C.hby d1_8) rfl rfl) ?_
      show Go p e below s n0 _ _ _ (T0.setTop (mkF m 9 #[.val (.ref a), .val (.int (0 : Int32)), .val (.int (1 : Int32))] [(.ref a)]))
      refine Go.st (fun _ => XS.iloadN X0.here C.hx rfl (hb C.hby d1_9) rfl) ?_
      show Go p e below s n0 _ _ _ (T0.setTop (mkF m 10 #[.val (.ref a), .val (.int (0 : Int32)), .val (.int (1 : Int32))] [(.int (1 : Int32)), (.ref a)]))
      refine Go.laload C X0 A (by decide) rfl d1_10 ?_
      show Go p e below s n0 _ _ _ (T0.setTop (mkF m 11 #[.val (.ref a), .val (.int (0 : Int32)), .val (.int (1 : Int32))] [(.long l1)]))
      refine Go.st (fun _ => XS.lconst X0.here C.hx rfl (hb C.hby d1_11)) ?_
      show Go p e below s n0 _ _ _ (T0.setTop (mkF m 12 #[.val (.ref a), .val (.int (0 : Int32)), .val (.int (1 : Int32))] [(.long (0 : Int64)), (.long l1)]))
      refine Go.st (fun _ => XS.lcmp X0.here C.hx rfl (hb C.hby d1_12) rfl) ?_
      show Go p e below s n0 _ _ _ (T0.setTop (mkF m 13 #[.val (.ref a), .val (.int (0 : Int32)), .val (.int (1 : Int32))] [(.int (lcmpW l1 (0 : Int64)))]))
      refine Go.lif_eq C X0 (pc' := 18) d1_13 (by decide) (by decide) (fun hc13_104 => ?_) (fun hc13_104 => ?_)
      · show Go p e below s n0 _ _ _ (T0.setTop (mkF m 18 #[.val (.ref a), .val (.int (0 : Int32)), .val (.int (1 : Int32))] []))
        refine Go.st (fun _ => XS.iinc X0.here C.hx rfl (hb C.hby d1_18) rfl (l' := #[.val (.ref a), .val (.int (0 : Int32)), .val (.int (2 : Int32))]) rfl) ?_
        show Go p e below s n0 _ _ _ (T0.setTop (mkF m 21 #[.val (.ref a), .val (.int (0 : Int32)), .val (.int (2 : Int32))] []))
        refine Go.st (fun _ => XS.goto X0.here C.hx rfl (pc0 := 21) (pc' := 2) rfl (hb C.hby d1_21) (by decide) (by decide)) ?_
        show Go p e below s n0 _ _ _ (T0.setTop (mkF m 2 #[.val (.ref a), .val (.int (0 : Int32)), .val (.int (2 : Int32))] []))
        refine Go.st (fun _ => XS.iloadN X0.here C.hx rfl (hb C.hby d1_2) rfl) ?_
        show Go p e below s n0 _ _ _ (T0.setTop (mkF m 3 #[.val (.ref a), .val (.int (0 : Int32)), .val (.int (2 : Int32))] [(.int (2 : Int32))]))
        refine Go.st (fun _ => XS.aloadN X0.here C.hx rfl (hb C.hby d1_3) rfl rfl) ?_
        show Go p e below s n0 _ _ _ (T0.setTop (mkF m 4 #[.val (.ref a), .val (.int (0 : Int32)), .val (.int (2 : Int32))] [(.ref a), (.int (2 : Int32))]))
        refine Go.alen C X0 A (z := (4 : Int32)) rfl d1_4 ?_
        show Go p e below s n0 _ _ _ (T0.setTop (mkF m 5 #[.val (.ref a), .val (.int (0 : Int32)), .val (.int (2 : Int32))] [(.int (4 : Int32)), (.int (2 : Int32))]))
        refine Go.icmp_ge C X0 (pc' := 24) d1_5 (by decide) (by decide) (fun hc => absurd hc (by decide)) (fun _ => ?_)
        show Go p e below s n0 _ _ _ (T0.setTop (mkF m 8 #[.val (.ref a), .val (.int (0 : Int32)), .val (.int (2 : Int32))] []))
        refine Go.st (fun _ => XS.aloadN X0.here C.hx rfl (hb C.hby d1_8) rfl rfl) ?_
        show Go p e below s n0 _ _ _ (T0.setTop (mkF m 9 #[.val (.ref a), .val (.int (0 : Int32)), .val (.int (2 : Int32))] [(.ref a)]))
        refine Go.st (fun _ => XS.iloadN X0.here C.hx rfl (hb C.hby d1_9) rfl) ?_
        show Go p e below s n0 _ _ _ (T0.setTop (mkF m 10 #[.val (.ref a), .val (.int (0 : Int32)), .val (.int (2 : Int32))] [(.int (2 : Int32)), (.ref a)]))
        refine Go.laload C X0 A (by decide) rfl d1_10 ?_
        show Go p e below s n0 _ _ _ (T0.setTop (mkF m 11 #[.val (.ref a), .val (.int (0 : Int32)), .val (.int (2 : Int32))] [(.long l2)]))
        refine Go.st (fun _ => XS.lconst X0.here C.hx rfl (hb C.hby d1_11)) ?_
        show Go p e below s n0 _ _ _ (T0.setTop (mkF m 12 #[.val (.ref a), .val (.int (0 : Int32)), .val (.int (2 : Int32))] [(.long (0 : Int64)), (.long l2)]))
        refine Go.st (fun _ => XS.lcmp X0.here C.hx rfl (hb C.hby d1_12) rfl) ?_
        show Go p e below s n0 _ _ _ (T0.setTop (mkF m 13 #[.val (.ref a), .val (.int (0 : Int32)), .val (.int (2 : Int32))] [(.int (lcmpW l2 (0 : Int64)))]))
        refine Go.lif_eq C X0 (pc' := 18) d1_13 (by decide) (by decide) (fun hc13_106 => ?_) (fun hc13_106 => ?_)
        · show Go p e below s n0 _ _ _ (T0.setTop (mkF m 18 #[.val (.ref a), .val (.int (0 : Int32)), .val (.int (2 : Int32))] []))
          refine Go.st (fun _ => XS.iinc X0.here C.hx rfl (hb C.hby d1_18) rfl (l' := #[.val (.ref a), .val (.int (0 : Int32)), .val (.int (3 : Int32))]) rfl) ?_
          show Go p e below s n0 _ _ _ (T0.setTop (mkF m 21 #[.val (.ref a), .val (.int (0 : Int32)), .val (.int (3 : Int32))] []))
          refine Go.st (fun _ => XS.goto X0.here C.hx rfl (pc0 := 21) (pc' := 2) rfl (hb C.hby d1_21) (by decide) (by decide)) ?_
          show Go p e below s n0 _ _ _ (T0.setTop (mkF m 2 #[.val (.ref a), .val (.int (0 : Int32)), .val (.int (3 : Int32))] []))
          refine Go.st (fun _ => XS.iloadN X0.here C.hx rfl (hb C.hby d1_2) rfl) ?_
          show Go p e below s n0 _ _ _ (T0.setTop (mkF m 3 #[.val (.ref a), .val (.int (0 : Int32)), .val (.int (3 : Int32))] [(.int (3 : Int32))]))
          refine Go.st (fun _ => XS.aloadN X0.here C.hx rfl (hb C.hby d1_3) rfl rfl) ?_
          show Go p e below s n0 _ _ _ (T0.setTop (mkF m 4 #[.val (.ref a), .val (.int (0 : Int32)), .val (.int (3 : Int32))] [(.ref a), (.int (3 : Int32))]))
          refine Go.alen C X0 A (z := (4 : Int32)) rfl d1_4 ?_
          show Go p e below s n0 _ _ _ (T0.setTop (mkF m 5 #[.val (.ref a), .val (.int (0 : Int32)), .val (.int (3 : Int32))] [(.int (4 : Int32)), (.int (3 : Int32))]))
          refine Go.icmp_ge C X0 (pc' := 24) d1_5 (by decide) (by decide) (fun hc => absurd hc (by decide)) (fun _ => ?_)
          show Go p e below s n0 _ _ _ (T0.setTop (mkF m 8 #[.val (.ref a), .val (.int (0 : Int32)), .val (.int (3 : Int32))] []))
          refine Go.st (fun _ => XS.aloadN X0.here C.hx rfl (hb C.hby d1_8) rfl rfl) ?_
          show Go p e below s n0 _ _ _ (T0.setTop (mkF m 9 #[.val (.ref a), .val (.int (0 : Int32)), .val (.int (3 : Int32))] [(.ref a)]))
          refine Go.st (fun _ => XS.iloadN X0.here C.hx rfl (hb C.hby d1_9) rfl) ?_
          show Go p e below s n0 _ _ _ (T0.setTop (mkF m 10 #[.val (.ref a), .val (.int (0 : Int32)), .val (.int (3 : Int32))] [(.int (3 : Int32)), (.ref a)]))
          refine Go.laload C X0 A (by decide) rfl d1_10 ?_
          show Go p e below s n0 _ _ _ (T0.setTop (mkF m 11 #[.val (.ref a), .val (.int (0 : Int32)), .val (.int (3 : Int32))] [(.long l3)]))
          refine Go.st (fun _ => XS.lconst X0.here C.hx rfl (hb C.hby d1_11)) ?_
          show Go p e below s n0 _ _ _ (T0.setTop (mkF m 12 #[.val (.ref a), .val (.int (0 : Int32)), .val (.int (3 : Int32))] [(.long (0 : Int64)), (.long l3)]))
          refine Go.st (fun _ => XS.lcmp X0.here C.hx rfl (hb C.hby d1_12) rfl) ?_
          show Go p e below s n0 _ _ _ (T0.setTop (mkF m 13 #[.val (.ref a), .val (.int (0 : Int32)), .val (.int (3 : Int32))] [(.int (lcmpW l3 (0 : Int64)))]))
          refine Go.lif_eq C X0 (pc' := 18) d1_13 (by decide) (by decide) (fun hc13_108 => ?_) (fun hc13_108 => ?_)
          · show Go p e below s n0 _ _ _ (T0.setTop (mkF m 18 #[.val (.ref a), .val (.int (0 : Int32)), .val (.int (3 : Int32))] []))
            refine Go.st (fun _ => XS.iinc X0.here C.hx rfl (hb C.hby d1_18) rfl (l' := #[.val (.ref a), .val (.int (0 : Int32)), .val (.int (4 : Int32))]) rfl) ?_
            show Go p e below s n0 _ _ _ (T0.setTop (mkF m 21 #[.val (.ref a), .val (.int (0 : Int32)), .val (.int (4 : Int32))] []))
            refine Go.st (fun _ => XS.goto X0.here C.hx rfl (pc0 := 21) (pc' := 2) rfl (hb C.hby d1_21) (by decide) (by decide)) ?_
            show Go p e below s n0 _ _ _ (T0.setTop (mkF m 2 #[.val (.ref a), .val (.int (0 : Int32)), .val (.int (4 : Int32))] []))
            refine Go.st (fun _ => XS.iloadN X0.here C.hx rfl (hb C.hby d1_2) rfl) ?_
            show Go p e below s n0 _ _ _ (T0.setTop (mkF m 3 #[.val (.ref a), .val (.int (0 : Int32)), .val (.int (4 : Int32))] [(.int (4 : Int32))]))
            refine Go.st (fun _ => XS.aloadN X0.here C.hx rfl (hb C.hby d1_3) rfl rfl) ?_
            show Go p e below s n0 _ _ _ (T0.setTop (mkF m 4 #[.val (.ref a), .val (.int (0 : Int32)), .val (.int (4 : Int32))] [(.ref a), (.int (4 : Int32))]))
            refine Go.alen C X0 A (z := (4 : Int32)) rfl d1_4 ?_
            show Go p e below s n0 _ _ _ (T0.setTop (mkF m 5 #[.val (.ref a), .val (.int (0 : Int32)), .val (.int (4 : Int32))] [(.int (4 : Int32)), (.int (4 : Int32))]))
            refine Go.icmp_ge C X0 (pc' := 24) d1_5 (by decide) (by decide) (fun _ => ?_) (fun hc => absurd hc (by decide))
            show Go p e below s n0 _ _ _ (T0.setTop (mkF m 24 #[.val (.ref a), .val (.int (0 : Int32)), .val (.int (4 : Int32))] []))
            refine Go.st (fun _ => XS.iconst X0.here C.hx rfl (hb C.hby d1_24)) ?_
            show Go p e below s n0 _ _ _ (T0.setTop (mkF m 25 #[.val (.ref a), .val (.int (0 : Int32)), .val (.int (4 : Int32))] [(.int (1 : Int32))]))
            exact Go.retZ C X0 (by decide) d1_25 ⟨(by simp +decide [isz, hc13_102, hc13_104, hc13_106, hc13_108]), rfl⟩ (by decide) (by decide)
          · show Go p e below s n0 _ _ _ (T0.setTop (mkF m 16 #[.val (.ref a), .val (.int (0 : Int32)), .val (.int (3 : Int32))] []))
            refine Go.st (fun _ => XS.iconst X0.here C.hx rfl (hb C.hby d1_16)) ?_
            show Go p e below s n0 _ _ _ (T0.setTop (mkF m 17 #[.val (.ref a), .val (.int (0 : Int32)), .val (.int (3 : Int32))] [(.int (0 : Int32))]))
            exact Go.retZ C X0 (by decide) d1_17 ⟨(by simp +decide [isz, hc13_102, hc13_104, hc13_106, hc13_108]), rfl⟩ (by decide) (by decide)
        · show Go p e below s n0 _ _ _ (T0.setTop (mkF m 16 #[.val (.ref a), .val (.int (0 : Int32)), .val (.int (2 : Int32))] []))
          refine Go.st (fun _ => XS.iconst X0.here C.hx rfl (hb C.hby d1_16)) ?_
          show Go p e below s n0 _ _ _ (T0.setTop (mkF m 17 #[.val (.ref a), .val (.int (0 : Int32)), .val (.int (2 : Int32))] [(.int (0 : Int32))]))
          exact Go.retZ C X0 (by decide) d1_17 ⟨(by simp +decide [isz, hc13_102, hc13_104, hc13_106]), rfl⟩ (by decide) (by decide)
      · show Go p e below s n0 _ _ _ (T0.setTop (mkF m 16 #[.val (.ref a), .val (.int (0 : Int32)), .val (.int (1 : Int32))] []))
        refine Go.st (fun _ => XS.iconst X0.here C.hx rfl (hb C.hby d1_16)) ?_
        show Go p e below s n0 _ _ _ (T0.setTop (mkF m 17 #[.val (.ref a), .val (.int (0 : Int32)), .val (.int (1 : Int32))] [(.int (0 : Int32))]))
        exact Go.retZ C X0 (by decide) d1_17 ⟨(by simp +decide [isz, hc13_102, hc13_104]), rfl⟩ (by decide) (by decide)
    · show Go p e below s n0 _ _ _ (T0.setTop (mkF m 16 #[.val (.ref a), .val (.int (0 : Int32)), .val (.int (0 : Int32))] []))
      refine Go.st (fun _ => XS.iconst X0.here C.hx rfl (hb C.hby d1_16)) ?_
      show Go p e below s n0 _ _ _ (T0.setTop (mkF m 17 #[.val (.ref a), .val (.int (0 : Int32)), .val (.int (0 : Int32))] [(.int (0 : Int32))]))
      exact Go.retZ C X0 (by decide) d1_17 ⟨(by simp +decide [isz, hc13_102]), rfl⟩ (by decide) (by decide)
  · show Go p e below s n0 _ _ _ (T0.setTop (mkF m 0 #[.val (.ref a), .val (.int (1 : Int32)), .unset] []))
    refine Go.st (fun _ => XS.iloadN X0.here C.hx rfl (hb C.hby d1_0) rfl) ?_
    show Go p e below s n0 _ _ _ (T0.setTop (mkF m 1 #[.val (.ref a), .val (.int (1 : Int32)), .unset] [(.int (1 : Int32))]))
    refine Go.st (fun _ => XS.istoreN X0.here C.hx rfl (hb C.hby d1_1) rfl (l' := #[.val (.ref a), .val (.int (1 : Int32)), .val (.int (1 : Int32))]) rfl) ?_
    show Go p e below s n0 _ _ _ (T0.setTop (mkF m 2 #[.val (.ref a), .val (.int (1 : Int32)), .val (.int (1 : Int32))] []))
    refine Go.st (fun _ => XS.iloadN X0.here C.hx rfl (hb C.hby d1_2) rfl) ?_
    show Go p e below s n0 _ _ _ (T0.setTop (mkF m 3 #[.val (.ref a), .val (.int (1 : Int32)), .val (.int (1 : Int32))] [(.int (1 : Int32))]))
    refine Go.st (fun _ => XS.aloadN X0.here C.hx rfl (hb C.hby d1_3) rfl rfl) ?_
    show Go p e below s n0 _ _ _ (T0.setTop (mkF m 4 #[.val (.ref a), .val (.int (1 : Int32)), .val (.int (1 : Int32))] [(.ref a), (.int (1 : Int32))]))
    refine Go.alen C X0 A (z := (4 : Int32)) rfl d1_4 ?_
    show Go p e below s n0 _ _ _ (T0.setTop (mkF m 5 #[.val (.ref a), .val (.int (1 : Int32)), .val (.int (1 : Int32))] [(.int (4 : Int32)), (.int (1 : Int32))]))
    refine Go.icmp_ge C X0 (pc' := 24) d1_5 (by decide) (by decide) (fun hc => absurd hc (by decide)) (fun _ => ?_)
    show Go p e below s n0 _ _ _ (T0.setTop (mkF m 8 #[.val (.ref a), .val (.int (1 : Int32)), .val (.int (1 : Int32))] []))
    refine Go.st (fun _ => XS.aloadN X0.here C.hx rfl (hb C.hby d1_8) rfl rfl) ?_
    show Go p e below s n0 _ _ _ (T0.setTop (mkF m 9 #[.val (.ref a), .val (.int (1 : Int32)), .val (.int (1 : Int32))] [(.ref a)]))
    refine Go.st (fun _ => XS.iloadN X0.here C.hx rfl (hb C.hby d1_9) rfl) ?_
    show Go p e below s n0 _ _ _ (T0.setTop (mkF m 10 #[.val (.ref a), .val (.int (1 : Int32)), .val (.int (1 : Int32))] [(.int (1 : Int32)), (.ref a)]))
    refine Go.laload C X0 A (by decide) rfl d1_10 ?_
    show Go p e below s n0 _ _ _ (T0.setTop (mkF m 11 #[.val (.ref a), .val (.int (1 : Int32)), .val (.int (1 : Int32))] [(.long l1)]))
    refine Go.st (fun _ => XS.lconst X0.here C.hx rfl (hb C.hby d1_11)) ?_
    show Go p e below s n0 _ _ _ (T0.setTop (mkF m 12 #[.val (.ref a), .val (.int (1 : Int32)), .val (.int (1 : Int32))] [(.long (0 : Int64)), (.long l1)]))
    refine Go.st (fun _ => XS.lcmp X0.here C.hx rfl (hb C.hby d1_12) rfl) ?_
    show Go p e below s n0 _ _ _ (T0.setTop (mkF m 13 #[.val (.ref a), .val (.int (1 : Int32)), .val (.int (1 : Int32))] [(.int (lcmpW l1 (0 : Int64)))]))
    refine Go.lif_eq C X0 (pc' := 18) d1_13 (by decide) (by decide) (fun hc13_111 => ?_) (fun hc13_111 => ?_)
    · show Go p e below s n0 _ _ _ (T0.setTop (mkF m 18 #[.val (.ref a), .val (.int (1 : Int32)), .val (.int (1 : Int32))] []))
      refine Go.st (fun _ => XS.iinc X0.here C.hx rfl (hb C.hby d1_18) rfl (l' := #[.val (.ref a), .val (.int (1 : Int32)), .val (.int (2 : Int32))]) rfl) ?_
      show Go p e below s n0 _ _ _ (T0.setTop (mkF m 21 #[.val (.ref a), .val (.int (1 : Int32)), .val (.int (2 : Int32))] []))
      refine Go.st (fun _ => XS.goto X0.here C.hx rfl (pc0 := 21) (pc' := 2) rfl (hb C.hby d1_21) (by decide) (by decide)) ?_
      show Go p e below s n0 _ _ _ (T0.setTop (mkF m 2 #[.val (.ref a), .val (.int (1 : Int32)), .val (.int (2 : Int32))] []))
      refine Go.st (fun _ => XS.iloadN X0.here C.hx rfl (hb C.hby d1_2) rfl) ?_
      show Go p e below s n0 _ _ _ (T0.setTop (mkF m 3 #[.val (.ref a), .val (.int (1 : Int32)), .val (.int (2 : Int32))] [(.int (2 : Int32))]))
      refine Go.st (fun _ => XS.aloadN X0.here C.hx rfl (hb C.hby d1_3) rfl rfl) ?_
      show Go p e below s n0 _ _ _ (T0.setTop (mkF m 4 #[.val (.ref a), .val (.int (1 : Int32)), .val (.int (2 : Int32))] [(.ref a), (.int (2 : Int32))]))
      refine Go.alen C X0 A (z := (4 : Int32)) rfl d1_4 ?_
      show Go p e below s n0 _ _ _ (T0.setTop (mkF m 5 #[.val (.ref a), .val (.int (1 : Int32)), .val (.int (2 : Int32))] [(.int (4 : Int32)), (.int (2 : Int32))]))
      refine Go.icmp_ge C X0 (pc' := 24) d1_5 (by decide) (by decide) (fun hc => absurd hc (by decide)) (fun _ => ?_)
      show Go p e below s n0 _ _ _ (T0.setTop (mkF m 8 #[.val (.ref a), .val (.int (1 : Int32)), .val (.int (2 : Int32))] []))
      refine Go.st (fun _ => XS.aloadN X0.here C.hx rfl (hb C.hby d1_8) rfl rfl) ?_
      show Go p e below s n0 _ _ _ (T0.setTop (mkF m 9 #[.val (.ref a), .val (.int (1 : Int32)), .val (.int (2 : Int32))] [(.ref a)]))
      refine Go.st (fun _ => XS.iloadN X0.here C.hx rfl (hb C.hby d1_9) rfl) ?_
      show Go p e below s n0 _ _ _ (T0.setTop (mkF m 10 #[.val (.ref a), .val (.int (1 : Int32)), .val (.int (2 : Int32))] [(.int (2 : Int32)), (.ref a)]))
      refine Go.laload C X0 A (by decide) rfl d1_10 ?_
      show Go p e below s n0 _ _ _ (T0.setTop (mkF m 11 #[.val (.ref a), .val (.int (1 : Int32)), .val (.int (2 : Int32))] [(.long l2)]))
      refine Go.st (fun _ => XS.lconst X0.here C.hx rfl (hb C.hby d1_11)) ?_
      show Go p e below s n0 _ _ _ (T0.setTop (mkF m 12 #[.val (.ref a), .val (.int (1 : Int32)), .val (.int (2 : Int32))] [(.long (0 : Int64)), (.long l2)]))
      refine Go.st (fun _ => XS.lcmp X0.here C.hx rfl (hb C.hby d1_12) rfl) ?_
      show Go p e below s n0 _ _ _ (T0.setTop (mkF m 13 #[.val (.ref a), .val (.int (1 : Int32)), .val (.int (2 : Int32))] [(.int (lcmpW l2 (0 : Int64)))]))
      refine Go.lif_eq C X0 (pc' := 18) d1_13 (by decide) (by decide) (fun hc13_113 => ?_) (fun hc13_113 => ?_)
      · show Go p e below s n0 _ _ _ (T0.setTop (mkF m 18 #[.val (.ref a), .val (.int (1 : Int32)), .val (.int (2 : Int32))] []))
        refine Go.st (fun _ => XS.iinc X0.here C.hx rfl (hb C.hby d1_18) rfl (l' := #[.val (.ref a), .val (.int (1 : Int32)), .val (.int (3 : Int32))]) rfl) ?_
        show Go p e below s n0 _ _ _ (T0.setTop (mkF m 21 #[.val (.ref a), .val (.int (1 : Int32)), .val (.int (3 : Int32))] []))
        refine Go.st (fun _ => XS.goto X0.here C.hx rfl (pc0 := 21) (pc' := 2) rfl (hb C.hby d1_21) (by decide) (by decide)) ?_
        show Go p e below s n0 _ _ _ (T0.setTop (mkF m 2 #[.val (.ref a), .val (.int (1 : Int32)), .val (.int (3 : Int32))] []))
        refine Go.st (fun _ => XS.iloadN X0.here C.hx rfl (hb C.hby d1_2) rfl) ?_
        show Go p e below s n0 _ _ _ (T0.setTop (mkF m 3 #[.val (.ref a), .val (.int (1 : Int32)), .val (.int (3 : Int32))] [(.int (3 : Int32))]))
        refine Go.st (fun _ => XS.aloadN X0.here C.hx rfl (hb C.hby d1_3) rfl rfl) ?_
        show Go p e below s n0 _ _ _ (T0.setTop (mkF m 4 #[.val (.ref a), .val (.int (1 : Int32)), .val (.int (3 : Int32))] [(.ref a), (.int (3 : Int32))]))
        refine Go.alen C X0 A (z := (4 : Int32)) rfl d1_4 ?_
        show Go p e below s n0 _ _ _ (T0.setTop (mkF m 5 #[.val (.ref a), .val (.int (1 : Int32)), .val (.int (3 : Int32))] [(.int (4 : Int32)), (.int (3 : Int32))]))
        refine Go.icmp_ge C X0 (pc' := 24) d1_5 (by decide) (by decide) (fun hc => absurd hc (by decide)) (fun _ => ?_)
        show Go p e below s n0 _ _ _ (T0.setTop (mkF m 8 #[.val (.ref a), .val (.int (1 : Int32)), .val (.int (3 : Int32))] []))
        refine Go.st (fun _ => XS.aloadN X0.here C.hx rfl (hb C.hby d1_8) rfl rfl) ?_
        show Go p e below s n0 _ _ _ (T0.setTop (mkF m 9 #[.val (.ref a), .val (.int (1 : Int32)), .val (.int (3 : Int32))] [(.ref a)]))
        refine Go.st (fun _ => XS.iloadN X0.here C.hx rfl (hb C.hby d1_9) rfl) ?_
        show Go p e below s n0 _ _ _ (T0.setTop (mkF m 10 #[.val (.ref a), .val (.int (1 : Int32)), .val (.int (3 : Int32))] [(.int (3 : Int32)), (.ref a)]))
        refine Go.laload C X0 A (by decide) rfl d1_10 ?_
        show Go p e below s n0 _ _ _ (T0.setTop (mkF m 11 #[.val (.ref a), .val (.int (1 : Int32)), .val (.int (3 : Int32))] [(.long l3)]))
        refine Go.st (fun _ => XS.lconst X0.here C.hx rfl (hb C.hby d1_11)) ?_
        show Go p e below s n0 _ _ _ (T0.setTop (mkF m 12 #[.val (.ref a), .val (.int (1 : Int32)), .val (.int (3 : Int32))] [(.long (0 : Int64)), (.long l3)]))
        refine Go.st (fun _ => XS.lcmp X0.here C.hx rfl (hb C.hby d1_12) rfl) ?_
        show Go p e below s n0 _ _ _ (T0.setTop (mkF m 13 #[.val (.ref a), .val (.int (1 : Int32)), .val (.int (3 : Int32))] [(.int (lcmpW l3 (0 : Int64)))]))
        refine Go.lif_eq C X0 (pc' := 18) d1_13 (by decide) (by decide) (fun hc13_115 => ?_) (fun hc13_115 => ?_)
        · show Go p e below s n0 _ _ _ (T0.setTop (mkF m 18 #[.val (.ref a), .val (.int (1 : Int32)), .val (.int (3 : Int32))] []))
          refine Go.st (fun _ => XS.iinc X0.here C.hx rfl (hb C.hby d1_18) rfl (l' := #[.val (.ref a), .val (.int (1 : Int32)), .val (.int (4 : Int32))]) rfl) ?_
          show Go p e below s n0 _ _ _ (T0.setTop (mkF m 21 #[.val (.ref a), .val (.int (1 : Int32)), .val (.int (4 : Int32))] []))
          refine Go.st (fun _ => XS.goto X0.here C.hx rfl (pc0 := 21) (pc' := 2) rfl (hb C.hby d1_21) (by decide) (by decide)) ?_
          show Go p e below s n0 _ _ _ (T0.setTop (mkF m 2 #[.val (.ref a), .val (.int (1 : Int32)), .val (.int (4 : Int32))] []))
          refine Go.st (fun _ => XS.iloadN X0.here C.hx rfl (hb C.hby d1_2) rfl) ?_
          show Go p e below s n0 _ _ _ (T0.setTop (mkF m 3 #[.val (.ref a), .val (.int (1 : Int32)), .val (.int (4 : Int32))] [(.int (4 : Int32))]))
          refine Go.st (fun _ => XS.aloadN X0.here C.hx rfl (hb C.hby d1_3) rfl rfl) ?_
          show Go p e below s n0 _ _ _ (T0.setTop (mkF m 4 #[.val (.ref a), .val (.int (1 : Int32)), .val (.int (4 : Int32))] [(.ref a), (.int (4 : Int32))]))
          refine Go.alen C X0 A (z := (4 : Int32)) rfl d1_4 ?_
          show Go p e below s n0 _ _ _ (T0.setTop (mkF m 5 #[.val (.ref a), .val (.int (1 : Int32)), .val (.int (4 : Int32))] [(.int (4 : Int32)), (.int (4 : Int32))]))
          refine Go.icmp_ge C X0 (pc' := 24) d1_5 (by decide) (by decide) (fun _ => ?_) (fun hc => absurd hc (by decide))
          show Go p e below s n0 _ _ _ (T0.setTop (mkF m 24 #[.val (.ref a), .val (.int (1 : Int32)), .val (.int (4 : Int32))] []))
          refine Go.st (fun _ => XS.iconst X0.here C.hx rfl (hb C.hby d1_24)) ?_
          show Go p e below s n0 _ _ _ (T0.setTop (mkF m 25 #[.val (.ref a), .val (.int (1 : Int32)), .val (.int (4 : Int32))] [(.int (1 : Int32))]))
          exact Go.retZ C X0 (by decide) d1_25 ⟨(by simp +decide [isz, hc13_111, hc13_113, hc13_115]), rfl⟩ (by decide) (by decide)
        · show Go p e below s n0 _ _ _ (T0.setTop (mkF m 16 #[.val (.ref a), .val (.int (1 : Int32)), .val (.int (3 : Int32))] []))
          refine Go.st (fun _ => XS.iconst X0.here C.hx rfl (hb C.hby d1_16)) ?_
          show Go p e below s n0 _ _ _ (T0.setTop (mkF m 17 #[.val (.ref a), .val (.int (1 : Int32)), .val (.int (3 : Int32))] [(.int (0 : Int32))]))
          exact Go.retZ C X0 (by decide) d1_17 ⟨(by simp +decide [isz, hc13_111, hc13_113, hc13_115]), rfl⟩ (by decide) (by decide)
      · show Go p e below s n0 _ _ _ (T0.setTop (mkF m 16 #[.val (.ref a), .val (.int (1 : Int32)), .val (.int (2 : Int32))] []))
        refine Go.st (fun _ => XS.iconst X0.here C.hx rfl (hb C.hby d1_16)) ?_
        show Go p e below s n0 _ _ _ (T0.setTop (mkF m 17 #[.val (.ref a), .val (.int (1 : Int32)), .val (.int (2 : Int32))] [(.int (0 : Int32))]))
        exact Go.retZ C X0 (by decide) d1_17 ⟨(by simp +decide [isz, hc13_111, hc13_113]), rfl⟩ (by decide) (by decide)
    · show Go p e below s n0 _ _ _ (T0.setTop (mkF m 16 #[.val (.ref a), .val (.int (1 : Int32)), .val (.int (1 : Int32))] []))
      refine Go.st (fun _ => XS.iconst X0.here C.hx rfl (hb C.hby d1_16)) ?_
      show Go p e below s n0 _ _ _ (T0.setTop (mkF m 17 #[.val (.ref a), .val (.int (1 : Int32)), .val (.int (1 : Int32))] [(.int (0 : Int32))]))
      exact Go.retZ C X0 (by decide) d1_17 ⟨(by simp +decide [isz, hc13_111]), rfl⟩ (by decide) (by decide)
  · show Go p e below s n0 _ _ _ (T0.setTop (mkF m 0 #[.val (.ref a), .val (.int (2 : Int32)), .unset] []))
    refine Go.st (fun _ => XS.iloadN X0.here C.hx rfl (hb C.hby d1_0) rfl) ?_
    show Go p e below s n0 _ _ _ (T0.setTop (mkF m 1 #[.val (.ref a), .val (.int (2 : Int32)), .unset] [(.int (2 : Int32))]))
    refine Go.st (fun _ => XS.istoreN X0.here C.hx rfl (hb C.hby d1_1) rfl (l' := #[.val (.ref a), .val (.int (2 : Int32)), .val (.int (2 : Int32))]) rfl) ?_
    show Go p e below s n0 _ _ _ (T0.setTop (mkF m 2 #[.val (.ref a), .val (.int (2 : Int32)), .val (.int (2 : Int32))] []))
    refine Go.st (fun _ => XS.iloadN X0.here C.hx rfl (hb C.hby d1_2) rfl) ?_
    show Go p e below s n0 _ _ _ (T0.setTop (mkF m 3 #[.val (.ref a), .val (.int (2 : Int32)), .val (.int (2 : Int32))] [(.int (2 : Int32))]))
    refine Go.st (fun _ => XS.aloadN X0.here C.hx rfl (hb C.hby d1_3) rfl rfl) ?_
    show Go p e below s n0 _ _ _ (T0.setTop (mkF m 4 #[.val (.ref a), .val (.int (2 : Int32)), .val (.int (2 : Int32))] [(.ref a), (.int (2 : Int32))]))
    refine Go.alen C X0 A (z := (4 : Int32)) rfl d1_4 ?_
    show Go p e below s n0 _ _ _ (T0.setTop (mkF m 5 #[.val (.ref a), .val (.int (2 : Int32)), .val (.int (2 : Int32))] [(.int (4 : Int32)), (.int (2 : Int32))]))
    refine Go.icmp_ge C X0 (pc' := 24) d1_5 (by decide) (by decide) (fun hc => absurd hc (by decide)) (fun _ => ?_)
    show Go p e below s n0 _ _ _ (T0.setTop (mkF m 8 #[.val (.ref a), .val (.int (2 : Int32)), .val (.int (2 : Int32))] []))
    refine Go.st (fun _ => XS.aloadN X0.here C.hx rfl (hb C.hby d1_8) rfl rfl) ?_
    show Go p e below s n0 _ _ _ (T0.setTop (mkF m 9 #[.val (.ref a), .val (.int (2 : Int32)), .val (.int (2 : Int32))] [(.ref a)]))
    refine Go.st (fun _ => XS.iloadN X0.here C.hx rfl (hb C.hby d1_9) rfl) ?_
    show Go p e below s n0 _ _ _ (T0.setTop (mkF m 10 #[.val (.ref a), .val (.int (2 : Int32)), .val (.int (2 : Int32))] [(.int (2 : Int32)), (.ref a)]))
    refine Go.laload C X0 A (by decide) rfl d1_10 ?_
    show Go p e below s n0 _ _ _ (T0.setTop (mkF m 11 #[.val (.ref a), .val (.int (2 : Int32)), .val (.int (2 : Int32))] [(.long l2)]))
    refine Go.st (fun _ => XS.lconst X0.here C.hx rfl (hb C.hby d1_11)) ?_
    show Go p e below s n0 _ _ _ (T0.setTop (mkF m 12 #[.val (.ref a), .val (.int (2 : Int32)), .val (.int (2 : Int32))] [(.long (0 : Int64)), (.long l2)]))
    refine Go.st (fun _ => XS.lcmp X0.here C.hx rfl (hb C.hby d1_12) rfl) ?_
    show Go p e below s n0 _ _ _ (T0.setTop (mkF m 13 #[.val (.ref a), .val (.int (2 : Int32)), .val (.int (2 : Int32))] [(.int (lcmpW l2 (0 : Int64)))]))
    refine Go.lif_eq C X0 (pc' := 18) d1_13 (by decide) (by decide) (fun hc13_118 => ?_) (fun hc13_118 => ?_)
    · show Go p e below s n0 _ _ _ (T0.setTop (mkF m 18 #[.val (.ref a), .val (.int (2 : Int32)), .val (.int (2 : Int32))] []))
      refine Go.st (fun _ => XS.iinc X0.here C.hx rfl (hb C.hby d1_18) rfl (l' := #[.val (.ref a), .val (.int (2 : Int32)), .val (.int (3 : Int32))]) rfl) ?_
      show Go p e below s n0 _ _ _ (T0.setTop (mkF m 21 #[.val (.ref a), .val (.int (2 : Int32)), .val (.int (3 : Int32))] []))
      refine Go.st (fun _ => XS.goto X0.here C.hx rfl (pc0 := 21) (pc' := 2) rfl (hb C.hby d1_21) (by decide) (by decide)) ?_
      show Go p e below s n0 _ _ _ (T0.setTop (mkF m 2 #[.val (.ref a), .val (.int (2 : Int32)), .val (.int (3 : Int32))] []))
      refine Go.st (fun _ => XS.iloadN X0.here C.hx rfl (hb C.hby d1_2) rfl) ?_
      show Go p e below s n0 _ _ _ (T0.setTop (mkF m 3 #[.val (.ref a), .val (.int (2 : Int32)), .val (.int (3 : Int32))] [(.int (3 : Int32))]))
      refine Go.st (fun _ => XS.aloadN X0.here C.hx rfl (hb C.hby d1_3) rfl rfl) ?_
      show Go p e below s n0 _ _ _ (T0.setTop (mkF m 4 #[.val (.ref a), .val (.int (2 : Int32)), .val (.int (3 : Int32))] [(.ref a), (.int (3 : Int32))]))
      refine Go.alen C X0 A (z := (4 : Int32)) rfl d1_4 ?_
      show Go p e below s n0 _ _ _ (T0.setTop (mkF m 5 #[.val (.ref a), .val (.int (2 : Int32)), .val (.int (3 : Int32))] [(.int (4 : Int32)), (.int (3 : Int32))]))
      refine Go.icmp_ge C X0 (pc' := 24) d1_5 (by decide) (by decide) (fun hc => absurd hc (by decide)) (fun _ => ?_)
      show Go p e below s n0 _ _ _ (T0.setTop (mkF m 8 #[.val (.ref a), .val (.int (2 : Int32)), .val (.int (3 : Int32))] []))
      refine Go.st (fun _ => XS.aloadN X0.here C.hx rfl (hb C.hby d1_8) rfl rfl) ?_
      show Go p e below s n0 _ _ _ (T0.setTop (mkF m 9 #[.val (.ref a), .val (.int (2 : Int32)), .val (.int (3 : Int32))] [(.ref a)]))
      refine Go.st (fun _ => XS.iloadN X0.here C.hx rfl (hb C.hby d1_9) rfl) ?_
      show Go p e below s n0 _ _ _ (T0.setTop (mkF m 10 #[.val (.ref a), .val (.int (2 : Int32)), .val (.int (3 : Int32))] [(.int (3 : Int32)), (.ref a)]))
      refine Go.laload C X0 A (by decide) rfl d1_10 ?_
      show Go p e below s n0 _ _ _ (T0.setTop (mkF m 11 #[.val (.ref a), .val (.int (2 : Int32)), .val (.int (3 : Int32))] [(.long l3)]))
      refine Go.st (fun _ => XS.lconst X0.here C.hx rfl (hb C.hby d1_11)) ?_
      show Go p e below s n0 _ _ _ (T0.setTop (mkF m 12 #[.val (.ref a), .val (.int (2 : Int32)), .val (.int (3 : Int32))] [(.long (0 : Int64)), (.long l3)]))
      refine Go.st (fun _ => XS.lcmp X0.here C.hx rfl (hb C.hby d1_12) rfl) ?_
      show Go p e below s n0 _ _ _ (T0.setTop (mkF m 13 #[.val (.ref a), .val (.int (2 : Int32)), .val (.int (3 : Int32))] [(.int (lcmpW l3 (0 : Int64)))]))
      refine Go.lif_eq C X0 (pc' := 18) d1_13 (by decide) (by decide) (fun hc13_120 => ?_) (fun hc13_120 => ?_)
      · show Go p e below s n0 _ _ _ (T0.setTop (mkF m 18 #[.val (.ref a), .val (.int (2 : Int32)), .val (.int (3 : Int32))] []))
        refine Go.st (fun _ => XS.iinc X0.here C.hx rfl (hb C.hby d1_18) rfl (l' := #[.val (.ref a), .val (.int (2 : Int32)), .val (.int (4 : Int32))]) rfl) ?_
        show Go p e below s n0 _ _ _ (T0.setTop (mkF m 21 #[.val (.ref a), .val (.int (2 : Int32)), .val (.int (4 : Int32))] []))
        refine Go.st (fun _ => XS.goto X0.here C.hx rfl (pc0 := 21) (pc' := 2) rfl (hb C.hby d1_21) (by decide) (by decide)) ?_
        show Go p e below s n0 _ _ _ (T0.setTop (mkF m 2 #[.val (.ref a), .val (.int (2 : Int32)), .val (.int (4 : Int32))] []))
        refine Go.st (fun _ => XS.iloadN X0.here C.hx rfl (hb C.hby d1_2) rfl) ?_
        show Go p e below s n0 _ _ _ (T0.setTop (mkF m 3 #[.val (.ref a), .val (.int (2 : Int32)), .val (.int (4 : Int32))] [(.int (4 : Int32))]))
        refine Go.st (fun _ => XS.aloadN X0.here C.hx rfl (hb C.hby d1_3) rfl rfl) ?_
        show Go p e below s n0 _ _ _ (T0.setTop (mkF m 4 #[.val (.ref a), .val (.int (2 : Int32)), .val (.int (4 : Int32))] [(.ref a), (.int (4 : Int32))]))
        refine Go.alen C X0 A (z := (4 : Int32)) rfl d1_4 ?_
        show Go p e below s n0 _ _ _ (T0.setTop (mkF m 5 #[.val (.ref a), .val (.int (2 : Int32)), .val (.int (4 : Int32))] [(.int (4 : Int32)), (.int (4 : Int32))]))
        refine Go.icmp_ge C X0 (pc' := 24) d1_5 (by decide) (by decide) (fun _ => ?_) (fun hc => absurd hc (by decide))
        show Go p e below s n0 _ _ _ (T0.setTop (mkF m 24 #[.val (.ref a), .val (.int (2 : Int32)), .val (.int (4 : Int32))] []))
        refine Go.st (fun _ => XS.iconst X0.here C.hx rfl (hb C.hby d1_24)) ?_
        show Go p e below s n0 _ _ _ (T0.setTop (mkF m 25 #[.val (.ref a), .val (.int (2 : Int32)), .val (.int (4 : Int32))] [(.int (1 : Int32))]))
        exact Go.retZ C X0 (by decide) d1_25 ⟨(by simp +decide [isz, hc13_118, hc13_120]), rfl⟩ (by decide) (by decide)
      · show Go p e below s n0 _ _ _ (T0.setTop (mkF m 16 #[.val (.ref a), .val (.int (2 : Int32)), .val (.int (3 : Int32))] []))
        refine Go.st (fun _ => XS.iconst X0.here C.hx rfl (hb C.hby d1_16)) ?_
        show Go p e below s n0 _ _ _ (T0.setTop (mkF m 17 #[.val (.ref a), .val (.int (2 : Int32)), .val (.int (3 : Int32))] [(.int (0 : Int32))]))
        exact Go.retZ C X0 (by decide) d1_17 ⟨(by simp +decide [isz, hc13_118, hc13_120]), rfl⟩ (by decide) (by decide)
    · show Go p e below s n0 _ _ _ (T0.setTop (mkF m 16 #[.val (.ref a), .val (.int (2 : Int32)), .val (.int (2 : Int32))] []))
      refine Go.st (fun _ => XS.iconst X0.here C.hx rfl (hb C.hby d1_16)) ?_
      show Go p e below s n0 _ _ _ (T0.setTop (mkF m 17 #[.val (.ref a), .val (.int (2 : Int32)), .val (.int (2 : Int32))] [(.int (0 : Int32))]))
      exact Go.retZ C X0 (by decide) d1_17 ⟨(by simp +decide [isz, hc13_118]), rfl⟩ (by decide) (by decide)
  · show Go p e below s n0 _ _ _ (T0.setTop (mkF m 0 #[.val (.ref a), .val (.int (3 : Int32)), .unset] []))
    refine Go.st (fun _ => XS.iloadN X0.here C.hx rfl (hb C.hby d1_0) rfl) ?_
    show Go p e below s n0 _ _ _ (T0.setTop (mkF m 1 #[.val (.ref a), .val (.int (3 : Int32)), .unset] [(.int (3 : Int32))]))
    refine Go.st (fun _ => XS.istoreN X0.here C.hx rfl (hb C.hby d1_1) rfl (l' := #[.val (.ref a), .val (.int (3 : Int32)), .val (.int (3 : Int32))]) rfl) ?_
    show Go p e below s n0 _ _ _ (T0.setTop (mkF m 2 #[.val (.ref a), .val (.int (3 : Int32)), .val (.int (3 : Int32))] []))
    refine Go.st (fun _ => XS.iloadN X0.here C.hx rfl (hb C.hby d1_2) rfl) ?_
    show Go p e below s n0 _ _ _ (T0.setTop (mkF m 3 #[.val (.ref a), .val (.int (3 : Int32)), .val (.int (3 : Int32))] [(.int (3 : Int32))]))
    refine Go.st (fun _ => XS.aloadN X0.here C.hx rfl (hb C.hby d1_3) rfl rfl) ?_
    show Go p e below s n0 _ _ _ (T0.setTop (mkF m 4 #[.val (.ref a), .val (.int (3 : Int32)), .val (.int (3 : Int32))] [(.ref a), (.int (3 : Int32))]))
    refine Go.alen C X0 A (z := (4 : Int32)) rfl d1_4 ?_
    show Go p e below s n0 _ _ _ (T0.setTop (mkF m 5 #[.val (.ref a), .val (.int (3 : Int32)), .val (.int (3 : Int32))] [(.int (4 : Int32)), (.int (3 : Int32))]))
    refine Go.icmp_ge C X0 (pc' := 24) d1_5 (by decide) (by decide) (fun hc => absurd hc (by decide)) (fun _ => ?_)
    show Go p e below s n0 _ _ _ (T0.setTop (mkF m 8 #[.val (.ref a), .val (.int (3 : Int32)), .val (.int (3 : Int32))] []))
    refine Go.st (fun _ => XS.aloadN X0.here C.hx rfl (hb C.hby d1_8) rfl rfl) ?_
    show Go p e below s n0 _ _ _ (T0.setTop (mkF m 9 #[.val (.ref a), .val (.int (3 : Int32)), .val (.int (3 : Int32))] [(.ref a)]))
    refine Go.st (fun _ => XS.iloadN X0.here C.hx rfl (hb C.hby d1_9) rfl) ?_
    show Go p e below s n0 _ _ _ (T0.setTop (mkF m 10 #[.val (.ref a), .val (.int (3 : Int32)), .val (.int (3 : Int32))] [(.int (3 : Int32)), (.ref a)]))
    refine Go.laload C X0 A (by decide) rfl d1_10 ?_
    show Go p e below s n0 _ _ _ (T0.setTop (mkF m 11 #[.val (.ref a), .val (.int (3 : Int32)), .val (.int (3 : Int32))] [(.long l3)]))
    refine Go.st (fun _ => XS.lconst X0.here C.hx rfl (hb C.hby d1_11)) ?_
    show Go p e below s n0 _ _ _ (T0.setTop (mkF m 12 #[.val (.ref a), .val (.int (3 : Int32)), .val (.int (3 : Int32))] [(.long (0 : Int64)), (.long l3)]))
    refine Go.st (fun _ => XS.lcmp X0.here C.hx rfl (hb C.hby d1_12) rfl) ?_
    show Go p e below s n0 _ _ _ (T0.setTop (mkF m 13 #[.val (.ref a), .val (.int (3 : Int32)), .val (.int (3 : Int32))] [(.int (lcmpW l3 (0 : Int64)))]))
    refine Go.lif_eq C X0 (pc' := 18) d1_13 (by decide) (by decide) (fun hc13_123 => ?_) (fun hc13_123 => ?_)
    · show Go p e below s n0 _ _ _ (T0.setTop (mkF m 18 #[.val (.ref a), .val (.int (3 : Int32)), .val (.int (3 : Int32))] []))
      refine Go.st (fun _ => XS.iinc X0.here C.hx rfl (hb C.hby d1_18) rfl (l' := #[.val (.ref a), .val (.int (3 : Int32)), .val (.int (4 : Int32))]) rfl) ?_
      show Go p e below s n0 _ _ _ (T0.setTop (mkF m 21 #[.val (.ref a), .val (.int (3 : Int32)), .val (.int (4 : Int32))] []))
      refine Go.st (fun _ => XS.goto X0.here C.hx rfl (pc0 := 21) (pc' := 2) rfl (hb C.hby d1_21) (by decide) (by decide)) ?_
      show Go p e below s n0 _ _ _ (T0.setTop (mkF m 2 #[.val (.ref a), .val (.int (3 : Int32)), .val (.int (4 : Int32))] []))
      refine Go.st (fun _ => XS.iloadN X0.here C.hx rfl (hb C.hby d1_2) rfl) ?_
      show Go p e below s n0 _ _ _ (T0.setTop (mkF m 3 #[.val (.ref a), .val (.int (3 : Int32)), .val (.int (4 : Int32))] [(.int (4 : Int32))]))
      refine Go.st (fun _ => XS.aloadN X0.here C.hx rfl (hb C.hby d1_3) rfl rfl) ?_
      show Go p e below s n0 _ _ _ (T0.setTop (mkF m 4 #[.val (.ref a), .val (.int (3 : Int32)), .val (.int (4 : Int32))] [(.ref a), (.int (4 : Int32))]))
      refine Go.alen C X0 A (z := (4 : Int32)) rfl d1_4 ?_
      show Go p e below s n0 _ _ _ (T0.setTop (mkF m 5 #[.val (.ref a), .val (.int (3 : Int32)), .val (.int (4 : Int32))] [(.int (4 : Int32)), (.int (4 : Int32))]))
      refine Go.icmp_ge C X0 (pc' := 24) d1_5 (by decide) (by decide) (fun _ => ?_) (fun hc => absurd hc (by decide))
      show Go p e below s n0 _ _ _ (T0.setTop (mkF m 24 #[.val (.ref a), .val (.int (3 : Int32)), .val (.int (4 : Int32))] []))
      refine Go.st (fun _ => XS.iconst X0.here C.hx rfl (hb C.hby d1_24)) ?_
      show Go p e below s n0 _ _ _ (T0.setTop (mkF m 25 #[.val (.ref a), .val (.int (3 : Int32)), .val (.int (4 : Int32))] [(.int (1 : Int32))]))
      exact Go.retZ C X0 (by decide) d1_25 ⟨(by simp +decide [isz, hc13_123]), rfl⟩ (by decide) (by decide)
    · show Go p e below s n0 _ _ _ (T0.setTop (mkF m 16 #[.val (.ref a), .val (.int (3 : Int32)), .val (.int (3 : Int32))] []))
      refine Go.st (fun _ => XS.iconst X0.here C.hx rfl (hb C.hby d1_16)) ?_
      show Go p e below s n0 _ _ _ (T0.setTop (mkF m 17 #[.val (.ref a), .val (.int (3 : Int32)), .val (.int (3 : Int32))] [(.int (0 : Int32))]))
      exact Go.retZ C X0 (by decide) d1_17 ⟨(by simp +decide [isz, hc13_123]), rfl⟩ (by decide) (by decide)
  · show Go p e below s n0 _ _ _ (T0.setTop (mkF m 0 #[.val (.ref a), .val (.int k), .unset] []))
    refine Go.st (fun _ => XS.iloadN X0.here C.hx rfl (hb C.hby d1_0) rfl) ?_
    show Go p e below s n0 _ _ _ (T0.setTop (mkF m 1 #[.val (.ref a), .val (.int k), .unset] [(.int k)]))
    refine Go.st (fun _ => XS.istoreN X0.here C.hx rfl (hb C.hby d1_1) rfl (l' := #[.val (.ref a), .val (.int k), .val (.int k)]) rfl) ?_
    show Go p e below s n0 _ _ _ (T0.setTop (mkF m 2 #[.val (.ref a), .val (.int k), .val (.int k)] []))
    refine Go.st (fun _ => XS.iloadN X0.here C.hx rfl (hb C.hby d1_2) rfl) ?_
    show Go p e below s n0 _ _ _ (T0.setTop (mkF m 3 #[.val (.ref a), .val (.int k), .val (.int k)] [(.int k)]))
    refine Go.st (fun _ => XS.aloadN X0.here C.hx rfl (hb C.hby d1_3) rfl rfl) ?_
    show Go p e below s n0 _ _ _ (T0.setTop (mkF m 4 #[.val (.ref a), .val (.int k), .val (.int k)] [(.ref a), (.int k)]))
    refine Go.alen C X0 A (z := (4 : Int32)) rfl d1_4 ?_
    show Go p e below s n0 _ _ _ (T0.setTop (mkF m 5 #[.val (.ref a), .val (.int k), .val (.int k)] [(.int (4 : Int32)), (.int k)]))
    refine Go.icmp_ge C X0 (pc' := 24) d1_5 (by decide) (by decide) (fun _ => ?_) (fun hc => by first | exact absurd hc (big k hb4).1 | exact absurd (big k hb4).1 hc)
    show Go p e below s n0 _ _ _ (T0.setTop (mkF m 24 #[.val (.ref a), .val (.int k), .val (.int k)] []))
    refine Go.st (fun _ => XS.iconst X0.here C.hx rfl (hb C.hby d1_24)) ?_
    show Go p e below s n0 _ _ _ (T0.setTop (mkF m 25 #[.val (.ref a), .val (.int k), .val (.int k)] [(.int (1 : Int32))]))
    exact Go.retZ C X0 (by decide) d1_25 ⟨(by simp [isz, big k hb4, hb4]), rfl⟩ (by decide) (by decide)
theorem pf_0 : plainFor x = true := plainFor_of_name (by first | (simp [plainName, overriddenIn]; done) | decide +kernel)
theorem pd_0 : parseMethodDescriptor "(IIJJJJ)Z" = some ⟨[.int, .int, .long, .long, .long, .long], some .boolean⟩ := by decide +kernel
set_option maxRecDepth 65536 in
set_option maxHeartbeats 40000000 in
theorem con_law (l : Launch) (Z : State) (a0 : Array Value) (hw : ∀ d ∈ tables_1, d.before a0 Z = true) (n0 : Nat) (h0 : Heap) (Z0 : n0 ≤ h0.size) (f m' : Int32) (l0 l1 l2 l3 : Int64)  :
    Con l Z x code maxLocals ret tables_1 room_1 n0 #[(.int f), (.int m'), (.long l0), (.long l1), (.long l2), (.long l3)] h0 (fun v h => v = some (.int 1)) := by
  refine Con.mk pf_0 hw Z0 ?_
  intro p e s m below meth c T0 C X0
  have ef : entryFrame m #[(.int f), (.int m'), (.long l0), (.long l1), (.long l2), (.long l3)] maxLocals = mkF m 0 #[.val (.int f), .val (.int m'), .val (.long l0), .second, .val (.long l1), .second, .val (.long l2), .second, .val (.long l3), .second, .unset, .unset, .unset, .unset, .unset, .unset, .unset, .unset, .unset, .unset, .unset, .unset, .unset] [] := by first | (simp [entryFrame, mkF, argsToLocals, Value.category, maxLocals]; done) | rfl
  rw [ef]
  show Go p e below s n0 _ _ _ (T0.setTop (mkF m 0 #[.val (.int f), .val (.int m'), .val (.long l0), .second, .val (.long l1), .second, .val (.long l2), .second, .val (.long l3), .second, .unset, .unset, .unset, .unset, .unset, .unset, .unset, .unset, .unset, .unset, .unset, .unset, .unset] []))
  refine Go.st (fun _ => XS.iloadN X0.here C.hx rfl (hb C.hby at_0) rfl) ?_
  show Go p e below s n0 _ _ _ (T0.setTop (mkF m 1 #[.val (.int f), .val (.int m'), .val (.long l0), .second, .val (.long l1), .second, .val (.long l2), .second, .val (.long l3), .second, .unset, .unset, .unset, .unset, .unset, .unset, .unset, .unset, .unset, .unset, .unset, .unset, .unset] [(.int f)]))
  refine Go.st (fun _ => XS.sipush X0.here C.hx rfl (hb C.hby at_1)) ?_
  show Go p e below s n0 _ _ _ (T0.setTop (mkF m 4 #[.val (.int f), .val (.int m'), .val (.long l0), .second, .val (.long l1), .second, .val (.long l2), .second, .val (.long l3), .second, .unset, .unset, .unset, .unset, .unset, .unset, .unset, .unset, .unset, .unset, .unset, .unset, .unset] [(.int (256 : Int32)), (.int f)]))
  refine Go.st (fun _ => XS.iand X0.here C.hx rfl (hb C.hby at_4) rfl) ?_
  show Go p e below s n0 _ _ _ (T0.setTop (mkF m 5 #[.val (.int f), .val (.int m'), .val (.long l0), .second, .val (.long l1), .second, .val (.long l2), .second, .val (.long l3), .second, .unset, .unset, .unset, .unset, .unset, .unset, .unset, .unset, .unset, .unset, .unset, .unset, .unset] [(.int (f &&& (256 : Int32)))]))
  have J127 : ∀ (TJ127 : State) (fr : Int32), St p l e room_1 s m #[(.int f), (.int m'), (.long l0), (.long l1), (.long l2), (.long l3)] below meth c n0 TJ127 h0 0 0 → ¬ fr < (0 : Int32) → Go p e below s n0 (room_1).cells (room_1).slots (fun v h => v = some (.int 1)) (TJ127.setTop (mkF m 19 #[.val (.int f), .val (.int m'), .val (.long l0), .second, .val (.long l1), .second, .val (.long l2), .second, .val (.long l3), .second, .unset, .unset, .unset, .unset, .unset, .unset, .unset, .unset, .unset, .unset, .unset, .unset, .unset] [(.int fr)])) := by
    intro TJ127 fr XJ127 hj_fr
    show Go p e below s n0 _ _ _ (TJ127.setTop (mkF m 19 #[.val (.int f), .val (.int m'), .val (.long l0), .second, .val (.long l1), .second, .val (.long l2), .second, .val (.long l3), .second, .unset, .unset, .unset, .unset, .unset, .unset, .unset, .unset, .unset, .unset, .unset, .unset, .unset] [(.int fr)]))
    refine Go.st (fun _ => XS.istore XJ127.here C.hx rfl (hb C.hby at_19) rfl (l' := #[.val (.int f), .val (.int m'), .val (.long l0), .second, .val (.long l1), .second, .val (.long l2), .second, .val (.long l3), .second, .val (.int fr), .unset, .unset, .unset, .unset, .unset, .unset, .unset, .unset, .unset, .unset, .unset, .unset]) rfl) ?_
    show Go p e below s n0 _ _ _ (TJ127.setTop (mkF m 21 #[.val (.int f), .val (.int m'), .val (.long l0), .second, .val (.long l1), .second, .val (.long l2), .second, .val (.long l3), .second, .val (.int fr), .unset, .unset, .unset, .unset, .unset, .unset, .unset, .unset, .unset, .unset, .unset, .unset] []))
    refine Go.st (fun _ => XS.iloadN XJ127.here C.hx rfl (hb C.hby at_21) rfl) ?_
    show Go p e below s n0 _ _ _ (TJ127.setTop (mkF m 22 #[.val (.int f), .val (.int m'), .val (.long l0), .second, .val (.long l1), .second, .val (.long l2), .second, .val (.long l3), .second, .val (.int fr), .unset, .unset, .unset, .unset, .unset, .unset, .unset, .unset, .unset, .unset, .unset, .unset] [(.int m')]))
    refine Go.st (fun _ => XS.iconst XJ127.here C.hx rfl (hb C.hby at_22)) ?_
    show Go p e below s n0 _ _ _ (TJ127.setTop (mkF m 23 #[.val (.int f), .val (.int m'), .val (.long l0), .second, .val (.long l1), .second, .val (.long l2), .second, .val (.long l3), .second, .val (.int fr), .unset, .unset, .unset, .unset, .unset, .unset, .unset, .unset, .unset, .unset, .unset, .unset] [(.int (1 : Int32)), (.int m')]))
    refine Go.st (fun _ => XS.iand XJ127.here C.hx rfl (hb C.hby at_23) rfl) ?_
    show Go p e below s n0 _ _ _ (TJ127.setTop (mkF m 24 #[.val (.int f), .val (.int m'), .val (.long l0), .second, .val (.long l1), .second, .val (.long l2), .second, .val (.long l3), .second, .val (.int fr), .unset, .unset, .unset, .unset, .unset, .unset, .unset, .unset, .unset, .unset, .unset, .unset] [(.int (m' &&& (1 : Int32)))]))
    have J129 : ∀ (TJ129 : State) (q0 : Int64), St p l e room_1 s m #[(.int f), (.int m'), (.long l0), (.long l1), (.long l2), (.long l3)] below meth c n0 TJ129 h0 0 0 → True → Go p e below s n0 (room_1).cells (room_1).slots (fun v h => v = some (.int 1)) (TJ129.setTop (mkF m 32 #[.val (.int f), .val (.int m'), .val (.long l0), .second, .val (.long l1), .second, .val (.long l2), .second, .val (.long l3), .second, .val (.int fr), .unset, .unset, .unset, .unset, .unset, .unset, .unset, .unset, .unset, .unset, .unset, .unset] [(.long q0)])) := by
      intro TJ129 q0 XJ129 hj_q0
      show Go p e below s n0 _ _ _ (TJ129.setTop (mkF m 32 #[.val (.int f), .val (.int m'), .val (.long l0), .second, .val (.long l1), .second, .val (.long l2), .second, .val (.long l3), .second, .val (.int fr), .unset, .unset, .unset, .unset, .unset, .unset, .unset, .unset, .unset, .unset, .unset, .unset] [(.long q0)]))
      refine Go.st (fun _ => XS.lstore XJ129.here C.hx rfl (hb C.hby at_32) rfl (l' := #[.val (.int f), .val (.int m'), .val (.long l0), .second, .val (.long l1), .second, .val (.long l2), .second, .val (.long l3), .second, .val (.int fr), .val (.long q0), .second, .unset, .unset, .unset, .unset, .unset, .unset, .unset, .unset, .unset, .unset]) rfl) ?_
      show Go p e below s n0 _ _ _ (TJ129.setTop (mkF m 34 #[.val (.int f), .val (.int m'), .val (.long l0), .second, .val (.long l1), .second, .val (.long l2), .second, .val (.long l3), .second, .val (.int fr), .val (.long q0), .second, .unset, .unset, .unset, .unset, .unset, .unset, .unset, .unset, .unset, .unset] []))
      refine Go.st (fun _ => XS.iloadN XJ129.here C.hx rfl (hb C.hby at_34) rfl) ?_
      show Go p e below s n0 _ _ _ (TJ129.setTop (mkF m 35 #[.val (.int f), .val (.int m'), .val (.long l0), .second, .val (.long l1), .second, .val (.long l2), .second, .val (.long l3), .second, .val (.int fr), .val (.long q0), .second, .unset, .unset, .unset, .unset, .unset, .unset, .unset, .unset, .unset, .unset] [(.int m')]))
      refine Go.st (fun _ => XS.iconst XJ129.here C.hx rfl (hb C.hby at_35)) ?_
      show Go p e below s n0 _ _ _ (TJ129.setTop (mkF m 36 #[.val (.int f), .val (.int m'), .val (.long l0), .second, .val (.long l1), .second, .val (.long l2), .second, .val (.long l3), .second, .val (.int fr), .val (.long q0), .second, .unset, .unset, .unset, .unset, .unset, .unset, .unset, .unset, .unset, .unset] [(.int (2 : Int32)), (.int m')]))
      refine Go.st (fun _ => XS.iand XJ129.here C.hx rfl (hb C.hby at_36) rfl) ?_
      show Go p e below s n0 _ _ _ (TJ129.setTop (mkF m 37 #[.val (.int f), .val (.int m'), .val (.long l0), .second, .val (.long l1), .second, .val (.long l2), .second, .val (.long l3), .second, .val (.int fr), .val (.long q0), .second, .unset, .unset, .unset, .unset, .unset, .unset, .unset, .unset, .unset, .unset] [(.int (m' &&& (2 : Int32)))]))
      have J131 : ∀ (TJ131 : State) (q1 : Int64), St p l e room_1 s m #[(.int f), (.int m'), (.long l0), (.long l1), (.long l2), (.long l3)] below meth c n0 TJ131 h0 0 0 → True → Go p e below s n0 (room_1).cells (room_1).slots (fun v h => v = some (.int 1)) (TJ131.setTop (mkF m 46 #[.val (.int f), .val (.int m'), .val (.long l0), .second, .val (.long l1), .second, .val (.long l2), .second, .val (.long l3), .second, .val (.int fr), .val (.long q0), .second, .unset, .unset, .unset, .unset, .unset, .unset, .unset, .unset, .unset, .unset] [(.long q1)])) := by
        intro TJ131 q1 XJ131 hj_q1
        show Go p e below s n0 _ _ _ (TJ131.setTop (mkF m 46 #[.val (.int f), .val (.int m'), .val (.long l0), .second, .val (.long l1), .second, .val (.long l2), .second, .val (.long l3), .second, .val (.int fr), .val (.long q0), .second, .unset, .unset, .unset, .unset, .unset, .unset, .unset, .unset, .unset, .unset] [(.long q1)]))
        refine Go.st (fun _ => XS.lstore XJ131.here C.hx rfl (hb C.hby at_46) rfl (l' := #[.val (.int f), .val (.int m'), .val (.long l0), .second, .val (.long l1), .second, .val (.long l2), .second, .val (.long l3), .second, .val (.int fr), .val (.long q0), .second, .val (.long q1), .second, .unset, .unset, .unset, .unset, .unset, .unset, .unset, .unset]) rfl) ?_
        show Go p e below s n0 _ _ _ (TJ131.setTop (mkF m 48 #[.val (.int f), .val (.int m'), .val (.long l0), .second, .val (.long l1), .second, .val (.long l2), .second, .val (.long l3), .second, .val (.int fr), .val (.long q0), .second, .val (.long q1), .second, .unset, .unset, .unset, .unset, .unset, .unset, .unset, .unset] []))
        refine Go.st (fun _ => XS.iloadN XJ131.here C.hx rfl (hb C.hby at_48) rfl) ?_
        show Go p e below s n0 _ _ _ (TJ131.setTop (mkF m 49 #[.val (.int f), .val (.int m'), .val (.long l0), .second, .val (.long l1), .second, .val (.long l2), .second, .val (.long l3), .second, .val (.int fr), .val (.long q0), .second, .val (.long q1), .second, .unset, .unset, .unset, .unset, .unset, .unset, .unset, .unset] [(.int m')]))
        refine Go.st (fun _ => XS.iconst XJ131.here C.hx rfl (hb C.hby at_49)) ?_
        show Go p e below s n0 _ _ _ (TJ131.setTop (mkF m 50 #[.val (.int f), .val (.int m'), .val (.long l0), .second, .val (.long l1), .second, .val (.long l2), .second, .val (.long l3), .second, .val (.int fr), .val (.long q0), .second, .val (.long q1), .second, .unset, .unset, .unset, .unset, .unset, .unset, .unset, .unset] [(.int (4 : Int32)), (.int m')]))
        refine Go.st (fun _ => XS.iand XJ131.here C.hx rfl (hb C.hby at_50) rfl) ?_
        show Go p e below s n0 _ _ _ (TJ131.setTop (mkF m 51 #[.val (.int f), .val (.int m'), .val (.long l0), .second, .val (.long l1), .second, .val (.long l2), .second, .val (.long l3), .second, .val (.int fr), .val (.long q0), .second, .val (.long q1), .second, .unset, .unset, .unset, .unset, .unset, .unset, .unset, .unset] [(.int (m' &&& (4 : Int32)))]))
        have J133 : ∀ (TJ133 : State) (q2 : Int64), St p l e room_1 s m #[(.int f), (.int m'), (.long l0), (.long l1), (.long l2), (.long l3)] below meth c n0 TJ133 h0 0 0 → True → Go p e below s n0 (room_1).cells (room_1).slots (fun v h => v = some (.int 1)) (TJ133.setTop (mkF m 60 #[.val (.int f), .val (.int m'), .val (.long l0), .second, .val (.long l1), .second, .val (.long l2), .second, .val (.long l3), .second, .val (.int fr), .val (.long q0), .second, .val (.long q1), .second, .unset, .unset, .unset, .unset, .unset, .unset, .unset, .unset] [(.long q2)])) := by
          intro TJ133 q2 XJ133 hj_q2
          show Go p e below s n0 _ _ _ (TJ133.setTop (mkF m 60 #[.val (.int f), .val (.int m'), .val (.long l0), .second, .val (.long l1), .second, .val (.long l2), .second, .val (.long l3), .second, .val (.int fr), .val (.long q0), .second, .val (.long q1), .second, .unset, .unset, .unset, .unset, .unset, .unset, .unset, .unset] [(.long q2)]))
          refine Go.st (fun _ => XS.lstore XJ133.here C.hx rfl (hb C.hby at_60) rfl (l' := #[.val (.int f), .val (.int m'), .val (.long l0), .second, .val (.long l1), .second, .val (.long l2), .second, .val (.long l3), .second, .val (.int fr), .val (.long q0), .second, .val (.long q1), .second, .val (.long q2), .second, .unset, .unset, .unset, .unset, .unset, .unset]) rfl) ?_
          show Go p e below s n0 _ _ _ (TJ133.setTop (mkF m 62 #[.val (.int f), .val (.int m'), .val (.long l0), .second, .val (.long l1), .second, .val (.long l2), .second, .val (.long l3), .second, .val (.int fr), .val (.long q0), .second, .val (.long q1), .second, .val (.long q2), .second, .unset, .unset, .unset, .unset, .unset, .unset] []))
          refine Go.st (fun _ => XS.iloadN XJ133.here C.hx rfl (hb C.hby at_62) rfl) ?_
          show Go p e below s n0 _ _ _ (TJ133.setTop (mkF m 63 #[.val (.int f), .val (.int m'), .val (.long l0), .second, .val (.long l1), .second, .val (.long l2), .second, .val (.long l3), .second, .val (.int fr), .val (.long q0), .second, .val (.long q1), .second, .val (.long q2), .second, .unset, .unset, .unset, .unset, .unset, .unset] [(.int m')]))
          refine Go.st (fun _ => XS.bipush XJ133.here C.hx rfl (hb C.hby at_63)) ?_
          show Go p e below s n0 _ _ _ (TJ133.setTop (mkF m 65 #[.val (.int f), .val (.int m'), .val (.long l0), .second, .val (.long l1), .second, .val (.long l2), .second, .val (.long l3), .second, .val (.int fr), .val (.long q0), .second, .val (.long q1), .second, .val (.long q2), .second, .unset, .unset, .unset, .unset, .unset, .unset] [(.int (8 : Int32)), (.int m')]))
          refine Go.st (fun _ => XS.iand XJ133.here C.hx rfl (hb C.hby at_65) rfl) ?_
          show Go p e below s n0 _ _ _ (TJ133.setTop (mkF m 66 #[.val (.int f), .val (.int m'), .val (.long l0), .second, .val (.long l1), .second, .val (.long l2), .second, .val (.long l3), .second, .val (.int fr), .val (.long q0), .second, .val (.long q1), .second, .val (.long q2), .second, .unset, .unset, .unset, .unset, .unset, .unset] [(.int (m' &&& (8 : Int32)))]))
          have J135 : ∀ (TJ135 : State) (q3 : Int64), St p l e room_1 s m #[(.int f), (.int m'), (.long l0), (.long l1), (.long l2), (.long l3)] below meth c n0 TJ135 h0 0 0 → True → Go p e below s n0 (room_1).cells (room_1).slots (fun v h => v = some (.int 1)) (TJ135.setTop (mkF m 75 #[.val (.int f), .val (.int m'), .val (.long l0), .second, .val (.long l1), .second, .val (.long l2), .second, .val (.long l3), .second, .val (.int fr), .val (.long q0), .second, .val (.long q1), .second, .val (.long q2), .second, .unset, .unset, .unset, .unset, .unset, .unset] [(.long q3)])) := by
            intro TJ135 q3 XJ135 hj_q3
            show Go p e below s n0 _ _ _ (TJ135.setTop (mkF m 75 #[.val (.int f), .val (.int m'), .val (.long l0), .second, .val (.long l1), .second, .val (.long l2), .second, .val (.long l3), .second, .val (.int fr), .val (.long q0), .second, .val (.long q1), .second, .val (.long q2), .second, .unset, .unset, .unset, .unset, .unset, .unset] [(.long q3)]))
            refine Go.st (fun _ => XS.lstore XJ135.here C.hx rfl (hb C.hby at_75) rfl (l' := #[.val (.int f), .val (.int m'), .val (.long l0), .second, .val (.long l1), .second, .val (.long l2), .second, .val (.long l3), .second, .val (.int fr), .val (.long q0), .second, .val (.long q1), .second, .val (.long q2), .second, .val (.long q3), .second, .unset, .unset, .unset, .unset]) rfl) ?_
            show Go p e below s n0 _ _ _ (TJ135.setTop (mkF m 77 #[.val (.int f), .val (.int m'), .val (.long l0), .second, .val (.long l1), .second, .val (.long l2), .second, .val (.long l3), .second, .val (.int fr), .val (.long q0), .second, .val (.long q1), .second, .val (.long q2), .second, .val (.long q3), .second, .unset, .unset, .unset, .unset] []))
            refine Go.st (fun _ => XS.iconst XJ135.here C.hx rfl (hb C.hby at_77)) ?_
            show Go p e below s n0 _ _ _ (TJ135.setTop (mkF m 78 #[.val (.int f), .val (.int m'), .val (.long l0), .second, .val (.long l1), .second, .val (.long l2), .second, .val (.long l3), .second, .val (.int fr), .val (.long q0), .second, .val (.long q1), .second, .val (.long q2), .second, .val (.long q3), .second, .unset, .unset, .unset, .unset] [(.int (4 : Int32))]))
            refine Go.newP C XJ135 (aty := .long) (cap := 4) (wd 0 rfl) at_78 (by decide) (by decide) (by decide) (by decide) (by decide) (fun T136 h136 b136 g136 ge136 X136 E136 A136 => ?_)
            have A_b136 : AR Z h136 b136 .long [(.long (0 : Int64)), (.long (0 : Int64)), (.long (0 : Int64)), (.long (0 : Int64))] := A136
            show Go p e below s n0 _ _ _ (T136.setTop (mkF m 80 #[.val (.int f), .val (.int m'), .val (.long l0), .second, .val (.long l1), .second, .val (.long l2), .second, .val (.long l3), .second, .val (.int fr), .val (.long q0), .second, .val (.long q1), .second, .val (.long q2), .second, .val (.long q3), .second, .unset, .unset, .unset, .unset] [(.ref b136)]))
            refine Go.st (fun _ => XS.dup X136.here C.hx rfl (hb C.hby at_80) rfl rfl) ?_
            show Go p e below s n0 _ _ _ (T136.setTop (mkF m 81 #[.val (.int f), .val (.int m'), .val (.long l0), .second, .val (.long l1), .second, .val (.long l2), .second, .val (.long l3), .second, .val (.int fr), .val (.long q0), .second, .val (.long q1), .second, .val (.long q2), .second, .val (.long q3), .second, .unset, .unset, .unset, .unset] [(.ref b136), (.ref b136)]))
            refine Go.st (fun _ => XS.iconst X136.here C.hx rfl (hb C.hby at_81)) ?_
            show Go p e below s n0 _ _ _ (T136.setTop (mkF m 82 #[.val (.int f), .val (.int m'), .val (.long l0), .second, .val (.long l1), .second, .val (.long l2), .second, .val (.long l3), .second, .val (.int fr), .val (.long q0), .second, .val (.long q1), .second, .val (.long q2), .second, .val (.long q3), .second, .unset, .unset, .unset, .unset] [(.int (0 : Int32)), (.ref b136), (.ref b136)]))
            refine Go.st (fun _ => XS.lload X136.here C.hx rfl (hb C.hby at_82) rfl) ?_
            show Go p e below s n0 _ _ _ (T136.setTop (mkF m 84 #[.val (.int f), .val (.int m'), .val (.long l0), .second, .val (.long l1), .second, .val (.long l2), .second, .val (.long l3), .second, .val (.int fr), .val (.long q0), .second, .val (.long q1), .second, .val (.long q2), .second, .val (.long q3), .second, .unset, .unset, .unset, .unset] [(.long q0), (.int (0 : Int32)), (.ref b136), (.ref b136)]))
            refine Go.lastore C X136 A_b136 (by decide) (Nat.le_of_ble_eq_true rfl) ge136 at_84 (fun T137 h137 X137 W137 A137 => ?_)
            have A_137 : AR Z h137 b136 .long [(.long q0), (.long (0 : Int64)), (.long (0 : Int64)), (.long (0 : Int64))] := A137
            show Go p e below s n0 _ _ _ (T137.setTop (mkF m 85 #[.val (.int f), .val (.int m'), .val (.long l0), .second, .val (.long l1), .second, .val (.long l2), .second, .val (.long l3), .second, .val (.int fr), .val (.long q0), .second, .val (.long q1), .second, .val (.long q2), .second, .val (.long q3), .second, .unset, .unset, .unset, .unset] [(.ref b136)]))
            refine Go.st (fun _ => XS.dup X137.here C.hx rfl (hb C.hby at_85) rfl rfl) ?_
            show Go p e below s n0 _ _ _ (T137.setTop (mkF m 86 #[.val (.int f), .val (.int m'), .val (.long l0), .second, .val (.long l1), .second, .val (.long l2), .second, .val (.long l3), .second, .val (.int fr), .val (.long q0), .second, .val (.long q1), .second, .val (.long q2), .second, .val (.long q3), .second, .unset, .unset, .unset, .unset] [(.ref b136), (.ref b136)]))
            refine Go.st (fun _ => XS.iconst X137.here C.hx rfl (hb C.hby at_86)) ?_
            show Go p e below s n0 _ _ _ (T137.setTop (mkF m 87 #[.val (.int f), .val (.int m'), .val (.long l0), .second, .val (.long l1), .second, .val (.long l2), .second, .val (.long l3), .second, .val (.int fr), .val (.long q0), .second, .val (.long q1), .second, .val (.long q2), .second, .val (.long q3), .second, .unset, .unset, .unset, .unset] [(.int (1 : Int32)), (.ref b136), (.ref b136)]))
            refine Go.st (fun _ => XS.lload X137.here C.hx rfl (hb C.hby at_87) rfl) ?_
            show Go p e below s n0 _ _ _ (T137.setTop (mkF m 89 #[.val (.int f), .val (.int m'), .val (.long l0), .second, .val (.long l1), .second, .val (.long l2), .second, .val (.long l3), .second, .val (.int fr), .val (.long q0), .second, .val (.long q1), .second, .val (.long q2), .second, .val (.long q3), .second, .unset, .unset, .unset, .unset] [(.long q1), (.int (1 : Int32)), (.ref b136), (.ref b136)]))
            refine Go.lastore C X137 A_137 (by decide) (Nat.le_of_ble_eq_true rfl) ge136 at_89 (fun T138 h138 X138 W138 A138 => ?_)
            have A_138 : AR Z h138 b136 .long [(.long q0), (.long q1), (.long (0 : Int64)), (.long (0 : Int64))] := A138
            show Go p e below s n0 _ _ _ (T138.setTop (mkF m 90 #[.val (.int f), .val (.int m'), .val (.long l0), .second, .val (.long l1), .second, .val (.long l2), .second, .val (.long l3), .second, .val (.int fr), .val (.long q0), .second, .val (.long q1), .second, .val (.long q2), .second, .val (.long q3), .second, .unset, .unset, .unset, .unset] [(.ref b136)]))
            refine Go.st (fun _ => XS.dup X138.here C.hx rfl (hb C.hby at_90) rfl rfl) ?_
            show Go p e below s n0 _ _ _ (T138.setTop (mkF m 91 #[.val (.int f), .val (.int m'), .val (.long l0), .second, .val (.long l1), .second, .val (.long l2), .second, .val (.long l3), .second, .val (.int fr), .val (.long q0), .second, .val (.long q1), .second, .val (.long q2), .second, .val (.long q3), .second, .unset, .unset, .unset, .unset] [(.ref b136), (.ref b136)]))
            refine Go.st (fun _ => XS.iconst X138.here C.hx rfl (hb C.hby at_91)) ?_
            show Go p e below s n0 _ _ _ (T138.setTop (mkF m 92 #[.val (.int f), .val (.int m'), .val (.long l0), .second, .val (.long l1), .second, .val (.long l2), .second, .val (.long l3), .second, .val (.int fr), .val (.long q0), .second, .val (.long q1), .second, .val (.long q2), .second, .val (.long q3), .second, .unset, .unset, .unset, .unset] [(.int (2 : Int32)), (.ref b136), (.ref b136)]))
            refine Go.st (fun _ => XS.lload X138.here C.hx rfl (hb C.hby at_92) rfl) ?_
            show Go p e below s n0 _ _ _ (T138.setTop (mkF m 94 #[.val (.int f), .val (.int m'), .val (.long l0), .second, .val (.long l1), .second, .val (.long l2), .second, .val (.long l3), .second, .val (.int fr), .val (.long q0), .second, .val (.long q1), .second, .val (.long q2), .second, .val (.long q3), .second, .unset, .unset, .unset, .unset] [(.long q2), (.int (2 : Int32)), (.ref b136), (.ref b136)]))
            refine Go.lastore C X138 A_138 (by decide) (Nat.le_of_ble_eq_true rfl) ge136 at_94 (fun T139 h139 X139 W139 A139 => ?_)
            have A_139 : AR Z h139 b136 .long [(.long q0), (.long q1), (.long q2), (.long (0 : Int64))] := A139
            show Go p e below s n0 _ _ _ (T139.setTop (mkF m 95 #[.val (.int f), .val (.int m'), .val (.long l0), .second, .val (.long l1), .second, .val (.long l2), .second, .val (.long l3), .second, .val (.int fr), .val (.long q0), .second, .val (.long q1), .second, .val (.long q2), .second, .val (.long q3), .second, .unset, .unset, .unset, .unset] [(.ref b136)]))
            refine Go.st (fun _ => XS.dup X139.here C.hx rfl (hb C.hby at_95) rfl rfl) ?_
            show Go p e below s n0 _ _ _ (T139.setTop (mkF m 96 #[.val (.int f), .val (.int m'), .val (.long l0), .second, .val (.long l1), .second, .val (.long l2), .second, .val (.long l3), .second, .val (.int fr), .val (.long q0), .second, .val (.long q1), .second, .val (.long q2), .second, .val (.long q3), .second, .unset, .unset, .unset, .unset] [(.ref b136), (.ref b136)]))
            refine Go.st (fun _ => XS.iconst X139.here C.hx rfl (hb C.hby at_96)) ?_
            show Go p e below s n0 _ _ _ (T139.setTop (mkF m 97 #[.val (.int f), .val (.int m'), .val (.long l0), .second, .val (.long l1), .second, .val (.long l2), .second, .val (.long l3), .second, .val (.int fr), .val (.long q0), .second, .val (.long q1), .second, .val (.long q2), .second, .val (.long q3), .second, .unset, .unset, .unset, .unset] [(.int (3 : Int32)), (.ref b136), (.ref b136)]))
            refine Go.st (fun _ => XS.lload X139.here C.hx rfl (hb C.hby at_97) rfl) ?_
            show Go p e below s n0 _ _ _ (T139.setTop (mkF m 99 #[.val (.int f), .val (.int m'), .val (.long l0), .second, .val (.long l1), .second, .val (.long l2), .second, .val (.long l3), .second, .val (.int fr), .val (.long q0), .second, .val (.long q1), .second, .val (.long q2), .second, .val (.long q3), .second, .unset, .unset, .unset, .unset] [(.long q3), (.int (3 : Int32)), (.ref b136), (.ref b136)]))
            refine Go.lastore C X139 A_139 (by decide) (Nat.le_of_ble_eq_true rfl) ge136 at_99 (fun T140 h140 X140 W140 A140 => ?_)
            have A_140 : AR Z h140 b136 .long [(.long q0), (.long q1), (.long q2), (.long q3)] := A140
            show Go p e below s n0 _ _ _ (T140.setTop (mkF m 100 #[.val (.int f), .val (.int m'), .val (.long l0), .second, .val (.long l1), .second, .val (.long l2), .second, .val (.long l3), .second, .val (.int fr), .val (.long q0), .second, .val (.long q1), .second, .val (.long q2), .second, .val (.long q3), .second, .unset, .unset, .unset, .unset] [(.ref b136)]))
            refine Go.st (fun _ => XS.astore X140.here C.hx rfl (hb C.hby at_100) rfl rfl (l' := #[.val (.int f), .val (.int m'), .val (.long l0), .second, .val (.long l1), .second, .val (.long l2), .second, .val (.long l3), .second, .val (.int fr), .val (.long q0), .second, .val (.long q1), .second, .val (.long q2), .second, .val (.long q3), .second, .val (.ref b136), .unset, .unset, .unset]) rfl) ?_
            show Go p e below s n0 _ _ _ (T140.setTop (mkF m 102 #[.val (.int f), .val (.int m'), .val (.long l0), .second, .val (.long l1), .second, .val (.long l2), .second, .val (.long l3), .second, .val (.int fr), .val (.long q0), .second, .val (.long q1), .second, .val (.long q2), .second, .val (.long q3), .second, .val (.ref b136), .unset, .unset, .unset] []))
            refine Go.st (fun _ => XS.aload X140.here C.hx rfl (hb C.hby at_102) rfl rfl) ?_
            show Go p e below s n0 _ _ _ (T140.setTop (mkF m 104 #[.val (.int f), .val (.int m'), .val (.long l0), .second, .val (.long l1), .second, .val (.long l2), .second, .val (.long l3), .second, .val (.int fr), .val (.long q0), .second, .val (.long q1), .second, .val (.long q2), .second, .val (.long q3), .second, .val (.ref b136), .unset, .unset, .unset] [(.ref b136)]))
            refine Go.st (fun _ => XS.iload X140.here C.hx rfl (hb C.hby at_104) rfl) ?_
            show Go p e below s n0 _ _ _ (T140.setTop (mkF m 106 #[.val (.int f), .val (.int m'), .val (.long l0), .second, .val (.long l1), .second, .val (.long l2), .second, .val (.long l3), .second, .val (.int fr), .val (.long q0), .second, .val (.long q1), .second, .val (.long q2), .second, .val (.long q3), .second, .val (.ref b136), .unset, .unset, .unset] [(.int fr), (.ref b136)]))
            refine Go.callS C X140 (W := 0) (argsL := [(.ref b136), (.int fr)]) (rest := []) (wd 1 rfl) (wd 2 rfl) (wd 3 rfl) (wd 4 rfl) (by decide) (con_isZero l Z a0 hw n0 h140 X140.size b136 fr q0 q1 q2 q3 A_140 hj_fr) (by decide) (by decide) rfl (lenOf pd_1 rfl) (Nat.le_of_ble_eq_true rfl) rfl at_106 (by decide) (by decide) (fun T141 h141 v141 X141 hQ141 => ?_)
            obtain ⟨rfl, hh141⟩ := hQ141
            rw [hh141] at X141
            show Go p e below s n0 _ _ _ (T141.setTop (mkF m 109 #[.val (.int f), .val (.int m'), .val (.long l0), .second, .val (.long l1), .second, .val (.long l2), .second, .val (.long l3), .second, .val (.int fr), .val (.long q0), .second, .val (.long q1), .second, .val (.long q2), .second, .val (.long q3), .second, .val (.ref b136), .unset, .unset, .unset] [(.int (isz fr q0 q1 q2 q3))]))
            refine Go.st (fun _ => XS.istore X141.here C.hx rfl (hb C.hby at_109) rfl (l' := #[.val (.int f), .val (.int m'), .val (.long l0), .second, .val (.long l1), .second, .val (.long l2), .second, .val (.long l3), .second, .val (.int fr), .val (.long q0), .second, .val (.long q1), .second, .val (.long q2), .second, .val (.long q3), .second, .val (.ref b136), .val (.int (isz fr q0 q1 q2 q3)), .unset, .unset]) rfl) ?_
            show Go p e below s n0 _ _ _ (T141.setTop (mkF m 111 #[.val (.int f), .val (.int m'), .val (.long l0), .second, .val (.long l1), .second, .val (.long l2), .second, .val (.long l3), .second, .val (.int fr), .val (.long q0), .second, .val (.long q1), .second, .val (.long q2), .second, .val (.long q3), .second, .val (.ref b136), .val (.int (isz fr q0 q1 q2 q3)), .unset, .unset] []))
            have J142 : ∀ (TJ142 : State) (w1 : Int32), St p l e room_1 s m #[(.int f), (.int m'), (.long l0), (.long l1), (.long l2), (.long l3)] below meth c n0 TJ142 h140 1 4 → w1 = (isz fr q0 q1 q2 q3) → Go p e below s n0 (room_1).cells (room_1).slots (fun v h => v = some (.int 1)) (TJ142.setTop (mkF m 167 #[.val (.int f), .val (.int m'), .val (.long l0), .second, .val (.long l1), .second, .val (.long l2), .second, .val (.long l3), .second, .val (.int fr), .val (.long q0), .second, .val (.long q1), .second, .val (.long q2), .second, .val (.long q3), .second, .val (.ref b136), .val (.int (isz fr q0 q1 q2 q3)), .unset, .unset] [(.int w1)])) := by
              intro TJ142 w1 XJ142 hj_w1
              show Go p e below s n0 _ _ _ (TJ142.setTop (mkF m 167 #[.val (.int f), .val (.int m'), .val (.long l0), .second, .val (.long l1), .second, .val (.long l2), .second, .val (.long l3), .second, .val (.int fr), .val (.long q0), .second, .val (.long q1), .second, .val (.long q2), .second, .val (.long q3), .second, .val (.ref b136), .val (.int (isz fr q0 q1 q2 q3)), .unset, .unset] [(.int w1)]))
              refine Go.st (fun _ => XS.istore XJ142.here C.hx rfl (hb C.hby at_167) rfl (l' := #[.val (.int f), .val (.int m'), .val (.long l0), .second, .val (.long l1), .second, .val (.long l2), .second, .val (.long l3), .second, .val (.int fr), .val (.long q0), .second, .val (.long q1), .second, .val (.long q2), .second, .val (.long q3), .second, .val (.ref b136), .val (.int (isz fr q0 q1 q2 q3)), .val (.int w1), .unset]) rfl) ?_
              show Go p e below s n0 _ _ _ (TJ142.setTop (mkF m 169 #[.val (.int f), .val (.int m'), .val (.long l0), .second, .val (.long l1), .second, .val (.long l2), .second, .val (.long l3), .second, .val (.int fr), .val (.long q0), .second, .val (.long q1), .second, .val (.long q2), .second, .val (.long q3), .second, .val (.ref b136), .val (.int (isz fr q0 q1 q2 q3)), .val (.int w1), .unset] []))
              refine Go.st (fun _ => XS.aload XJ142.here C.hx rfl (hb C.hby at_169) rfl rfl) ?_
              show Go p e below s n0 _ _ _ (TJ142.setTop (mkF m 171 #[.val (.int f), .val (.int m'), .val (.long l0), .second, .val (.long l1), .second, .val (.long l2), .second, .val (.long l3), .second, .val (.int fr), .val (.long q0), .second, .val (.long q1), .second, .val (.long q2), .second, .val (.long q3), .second, .val (.ref b136), .val (.int (isz fr q0 q1 q2 q3)), .val (.int w1), .unset] [(.ref b136)]))
              refine Go.st (fun _ => XS.iconst XJ142.here C.hx rfl (hb C.hby at_171)) ?_
              show Go p e below s n0 _ _ _ (TJ142.setTop (mkF m 172 #[.val (.int f), .val (.int m'), .val (.long l0), .second, .val (.long l1), .second, .val (.long l2), .second, .val (.long l3), .second, .val (.int fr), .val (.long q0), .second, .val (.long q1), .second, .val (.long q2), .second, .val (.long q3), .second, .val (.ref b136), .val (.int (isz fr q0 q1 q2 q3)), .val (.int w1), .unset] [(.int (0 : Int32)), (.ref b136)]))
              refine Go.laload C XJ142 A_140 (by decide) rfl at_172 ?_
              show Go p e below s n0 _ _ _ (TJ142.setTop (mkF m 173 #[.val (.int f), .val (.int m'), .val (.long l0), .second, .val (.long l1), .second, .val (.long l2), .second, .val (.long l3), .second, .val (.int fr), .val (.long q0), .second, .val (.long q1), .second, .val (.long q2), .second, .val (.long q3), .second, .val (.ref b136), .val (.int (isz fr q0 q1 q2 q3)), .val (.int w1), .unset] [(.long q0)]))
              refine Go.st (fun _ => XS.lload XJ142.here C.hx rfl (hb C.hby at_173) rfl) ?_
              show Go p e below s n0 _ _ _ (TJ142.setTop (mkF m 175 #[.val (.int f), .val (.int m'), .val (.long l0), .second, .val (.long l1), .second, .val (.long l2), .second, .val (.long l3), .second, .val (.int fr), .val (.long q0), .second, .val (.long q1), .second, .val (.long q2), .second, .val (.long q3), .second, .val (.ref b136), .val (.int (isz fr q0 q1 q2 q3)), .val (.int w1), .unset] [(.long q0), (.long q0)]))
              refine Go.st (fun _ => XS.lcmp XJ142.here C.hx rfl (hb C.hby at_175) rfl) ?_
              show Go p e below s n0 _ _ _ (TJ142.setTop (mkF m 176 #[.val (.int f), .val (.int m'), .val (.long l0), .second, .val (.long l1), .second, .val (.long l2), .second, .val (.long l3), .second, .val (.int fr), .val (.long q0), .second, .val (.long q1), .second, .val (.long q2), .second, .val (.long q3), .second, .val (.ref b136), .val (.int (isz fr q0 q1 q2 q3)), .val (.int w1), .unset] [(.int (lcmpW q0 q0))]))
              refine Go.lif_ne C XJ142 (pc' := 213) at_176 (by decide) (by decide) (fun hc => by first | exact absurd hc rfl | exact absurd rfl hc) (fun _ => ?_)
              show Go p e below s n0 _ _ _ (TJ142.setTop (mkF m 179 #[.val (.int f), .val (.int m'), .val (.long l0), .second, .val (.long l1), .second, .val (.long l2), .second, .val (.long l3), .second, .val (.int fr), .val (.long q0), .second, .val (.long q1), .second, .val (.long q2), .second, .val (.long q3), .second, .val (.ref b136), .val (.int (isz fr q0 q1 q2 q3)), .val (.int w1), .unset] []))
              refine Go.st (fun _ => XS.aload XJ142.here C.hx rfl (hb C.hby at_179) rfl rfl) ?_
              show Go p e below s n0 _ _ _ (TJ142.setTop (mkF m 181 #[.val (.int f), .val (.int m'), .val (.long l0), .second, .val (.long l1), .second, .val (.long l2), .second, .val (.long l3), .second, .val (.int fr), .val (.long q0), .second, .val (.long q1), .second, .val (.long q2), .second, .val (.long q3), .second, .val (.ref b136), .val (.int (isz fr q0 q1 q2 q3)), .val (.int w1), .unset] [(.ref b136)]))
              refine Go.st (fun _ => XS.iconst XJ142.here C.hx rfl (hb C.hby at_181)) ?_
              show Go p e below s n0 _ _ _ (TJ142.setTop (mkF m 182 #[.val (.int f), .val (.int m'), .val (.long l0), .second, .val (.long l1), .second, .val (.long l2), .second, .val (.long l3), .second, .val (.int fr), .val (.long q0), .second, .val (.long q1), .second, .val (.long q2), .second, .val (.long q3), .second, .val (.ref b136), .val (.int (isz fr q0 q1 q2 q3)), .val (.int w1), .unset] [(.int (1 : Int32)), (.ref b136)]))
              refine Go.laload C XJ142 A_140 (by decide) rfl at_182 ?_
              show Go p e below s n0 _ _ _ (TJ142.setTop (mkF m 183 #[.val (.int f), .val (.int m'), .val (.long l0), .second, .val (.long l1), .second, .val (.long l2), .second, .val (.long l3), .second, .val (.int fr), .val (.long q0), .second, .val (.long q1), .second, .val (.long q2), .second, .val (.long q3), .second, .val (.ref b136), .val (.int (isz fr q0 q1 q2 q3)), .val (.int w1), .unset] [(.long q1)]))
              refine Go.st (fun _ => XS.lload XJ142.here C.hx rfl (hb C.hby at_183) rfl) ?_
              show Go p e below s n0 _ _ _ (TJ142.setTop (mkF m 185 #[.val (.int f), .val (.int m'), .val (.long l0), .second, .val (.long l1), .second, .val (.long l2), .second, .val (.long l3), .second, .val (.int fr), .val (.long q0), .second, .val (.long q1), .second, .val (.long q2), .second, .val (.long q3), .second, .val (.ref b136), .val (.int (isz fr q0 q1 q2 q3)), .val (.int w1), .unset] [(.long q1), (.long q1)]))
              refine Go.st (fun _ => XS.lcmp XJ142.here C.hx rfl (hb C.hby at_185) rfl) ?_
              show Go p e below s n0 _ _ _ (TJ142.setTop (mkF m 186 #[.val (.int f), .val (.int m'), .val (.long l0), .second, .val (.long l1), .second, .val (.long l2), .second, .val (.long l3), .second, .val (.int fr), .val (.long q0), .second, .val (.long q1), .second, .val (.long q2), .second, .val (.long q3), .second, .val (.ref b136), .val (.int (isz fr q0 q1 q2 q3)), .val (.int w1), .unset] [(.int (lcmpW q1 q1))]))
              refine Go.lif_ne C XJ142 (pc' := 213) at_186 (by decide) (by decide) (fun hc => by first | exact absurd hc rfl | exact absurd rfl hc) (fun _ => ?_)
              show Go p e below s n0 _ _ _ (TJ142.setTop (mkF m 189 #[.val (.int f), .val (.int m'), .val (.long l0), .second, .val (.long l1), .second, .val (.long l2), .second, .val (.long l3), .second, .val (.int fr), .val (.long q0), .second, .val (.long q1), .second, .val (.long q2), .second, .val (.long q3), .second, .val (.ref b136), .val (.int (isz fr q0 q1 q2 q3)), .val (.int w1), .unset] []))
              refine Go.st (fun _ => XS.aload XJ142.here C.hx rfl (hb C.hby at_189) rfl rfl) ?_
              show Go p e below s n0 _ _ _ (TJ142.setTop (mkF m 191 #[.val (.int f), .val (.int m'), .val (.long l0), .second, .val (.long l1), .second, .val (.long l2), .second, .val (.long l3), .second, .val (.int fr), .val (.long q0), .second, .val (.long q1), .second, .val (.long q2), .second, .val (.long q3), .second, .val (.ref b136), .val (.int (isz fr q0 q1 q2 q3)), .val (.int w1), .unset] [(.ref b136)]))
              refine Go.st (fun _ => XS.iconst XJ142.here C.hx rfl (hb C.hby at_191)) ?_
              show Go p e below s n0 _ _ _ (TJ142.setTop (mkF m 192 #[.val (.int f), .val (.int m'), .val (.long l0), .second, .val (.long l1), .second, .val (.long l2), .second, .val (.long l3), .second, .val (.int fr), .val (.long q0), .second, .val (.long q1), .second, .val (.long q2), .second, .val (.long q3), .second, .val (.ref b136), .val (.int (isz fr q0 q1 q2 q3)), .val (.int w1), .unset] [(.int (2 : Int32)), (.ref b136)]))
              refine Go.laload C XJ142 A_140 (by decide) rfl at_192 ?_
              show Go p e below s n0 _ _ _ (TJ142.setTop (mkF m 193 #[.val (.int f), .val (.int m'), .val (.long l0), .second, .val (.long l1), .second, .val (.long l2), .second, .val (.long l3), .second, .val (.int fr), .val (.long q0), .second, .val (.long q1), .second, .val (.long q2), .second, .val (.long q3), .second, .val (.ref b136), .val (.int (isz fr q0 q1 q2 q3)), .val (.int w1), .unset] [(.long q2)]))
              refine Go.st (fun _ => XS.lload XJ142.here C.hx rfl (hb C.hby at_193) rfl) ?_
              show Go p e below s n0 _ _ _ (TJ142.setTop (mkF m 195 #[.val (.int f), .val (.int m'), .val (.long l0), .second, .val (.long l1), .second, .val (.long l2), .second, .val (.long l3), .second, .val (.int fr), .val (.long q0), .second, .val (.long q1), .second, .val (.long q2), .second, .val (.long q3), .second, .val (.ref b136), .val (.int (isz fr q0 q1 q2 q3)), .val (.int w1), .unset] [(.long q2), (.long q2)]))
              refine Go.st (fun _ => XS.lcmp XJ142.here C.hx rfl (hb C.hby at_195) rfl) ?_
              show Go p e below s n0 _ _ _ (TJ142.setTop (mkF m 196 #[.val (.int f), .val (.int m'), .val (.long l0), .second, .val (.long l1), .second, .val (.long l2), .second, .val (.long l3), .second, .val (.int fr), .val (.long q0), .second, .val (.long q1), .second, .val (.long q2), .second, .val (.long q3), .second, .val (.ref b136), .val (.int (isz fr q0 q1 q2 q3)), .val (.int w1), .unset] [(.int (lcmpW q2 q2))]))
              refine Go.lif_ne C XJ142 (pc' := 213) at_196 (by decide) (by decide) (fun hc => by first | exact absurd hc rfl | exact absurd rfl hc) (fun _ => ?_)
              show Go p e below s n0 _ _ _ (TJ142.setTop (mkF m 199 #[.val (.int f), .val (.int m'), .val (.long l0), .second, .val (.long l1), .second, .val (.long l2), .second, .val (.long l3), .second, .val (.int fr), .val (.long q0), .second, .val (.long q1), .second, .val (.long q2), .second, .val (.long q3), .second, .val (.ref b136), .val (.int (isz fr q0 q1 q2 q3)), .val (.int w1), .unset] []))
              refine Go.st (fun _ => XS.aload XJ142.here C.hx rfl (hb C.hby at_199) rfl rfl) ?_
              show Go p e below s n0 _ _ _ (TJ142.setTop (mkF m 201 #[.val (.int f), .val (.int m'), .val (.long l0), .second, .val (.long l1), .second, .val (.long l2), .second, .val (.long l3), .second, .val (.int fr), .val (.long q0), .second, .val (.long q1), .second, .val (.long q2), .second, .val (.long q3), .second, .val (.ref b136), .val (.int (isz fr q0 q1 q2 q3)), .val (.int w1), .unset] [(.ref b136)]))
              refine Go.st (fun _ => XS.iconst XJ142.here C.hx rfl (hb C.hby at_201)) ?_
              show Go p e below s n0 _ _ _ (TJ142.setTop (mkF m 202 #[.val (.int f), .val (.int m'), .val (.long l0), .second, .val (.long l1), .second, .val (.long l2), .second, .val (.long l3), .second, .val (.int fr), .val (.long q0), .second, .val (.long q1), .second, .val (.long q2), .second, .val (.long q3), .second, .val (.ref b136), .val (.int (isz fr q0 q1 q2 q3)), .val (.int w1), .unset] [(.int (3 : Int32)), (.ref b136)]))
              refine Go.laload C XJ142 A_140 (by decide) rfl at_202 ?_
              show Go p e below s n0 _ _ _ (TJ142.setTop (mkF m 203 #[.val (.int f), .val (.int m'), .val (.long l0), .second, .val (.long l1), .second, .val (.long l2), .second, .val (.long l3), .second, .val (.int fr), .val (.long q0), .second, .val (.long q1), .second, .val (.long q2), .second, .val (.long q3), .second, .val (.ref b136), .val (.int (isz fr q0 q1 q2 q3)), .val (.int w1), .unset] [(.long q3)]))
              refine Go.st (fun _ => XS.lload XJ142.here C.hx rfl (hb C.hby at_203) rfl) ?_
              show Go p e below s n0 _ _ _ (TJ142.setTop (mkF m 205 #[.val (.int f), .val (.int m'), .val (.long l0), .second, .val (.long l1), .second, .val (.long l2), .second, .val (.long l3), .second, .val (.int fr), .val (.long q0), .second, .val (.long q1), .second, .val (.long q2), .second, .val (.long q3), .second, .val (.ref b136), .val (.int (isz fr q0 q1 q2 q3)), .val (.int w1), .unset] [(.long q3), (.long q3)]))
              refine Go.st (fun _ => XS.lcmp XJ142.here C.hx rfl (hb C.hby at_205) rfl) ?_
              show Go p e below s n0 _ _ _ (TJ142.setTop (mkF m 206 #[.val (.int f), .val (.int m'), .val (.long l0), .second, .val (.long l1), .second, .val (.long l2), .second, .val (.long l3), .second, .val (.int fr), .val (.long q0), .second, .val (.long q1), .second, .val (.long q2), .second, .val (.long q3), .second, .val (.ref b136), .val (.int (isz fr q0 q1 q2 q3)), .val (.int w1), .unset] [(.int (lcmpW q3 q3))]))
              refine Go.lif_ne C XJ142 (pc' := 213) at_206 (by decide) (by decide) (fun hc => by first | exact absurd hc rfl | exact absurd rfl hc) (fun _ => ?_)
              show Go p e below s n0 _ _ _ (TJ142.setTop (mkF m 209 #[.val (.int f), .val (.int m'), .val (.long l0), .second, .val (.long l1), .second, .val (.long l2), .second, .val (.long l3), .second, .val (.int fr), .val (.long q0), .second, .val (.long q1), .second, .val (.long q2), .second, .val (.long q3), .second, .val (.ref b136), .val (.int (isz fr q0 q1 q2 q3)), .val (.int w1), .unset] []))
              refine Go.st (fun _ => XS.iconst XJ142.here C.hx rfl (hb C.hby at_209)) ?_
              show Go p e below s n0 _ _ _ (TJ142.setTop (mkF m 210 #[.val (.int f), .val (.int m'), .val (.long l0), .second, .val (.long l1), .second, .val (.long l2), .second, .val (.long l3), .second, .val (.int fr), .val (.long q0), .second, .val (.long q1), .second, .val (.long q2), .second, .val (.long q3), .second, .val (.ref b136), .val (.int (isz fr q0 q1 q2 q3)), .val (.int w1), .unset] [(.int (1 : Int32))]))
              refine Go.st (fun _ => XS.goto XJ142.here C.hx rfl (pc0 := 210) (pc' := 214) rfl (hb C.hby at_210) (by decide) (by decide)) ?_
              show Go p e below s n0 _ _ _ (TJ142.setTop (mkF m 214 #[.val (.int f), .val (.int m'), .val (.long l0), .second, .val (.long l1), .second, .val (.long l2), .second, .val (.long l3), .second, .val (.int fr), .val (.long q0), .second, .val (.long q1), .second, .val (.long q2), .second, .val (.long q3), .second, .val (.ref b136), .val (.int (isz fr q0 q1 q2 q3)), .val (.int w1), .unset] [(.int (1 : Int32))]))
              refine Go.st (fun _ => XS.istore XJ142.here C.hx rfl (hb C.hby at_214) rfl (l' := #[.val (.int f), .val (.int m'), .val (.long l0), .second, .val (.long l1), .second, .val (.long l2), .second, .val (.long l3), .second, .val (.int fr), .val (.long q0), .second, .val (.long q1), .second, .val (.long q2), .second, .val (.long q3), .second, .val (.ref b136), .val (.int (isz fr q0 q1 q2 q3)), .val (.int w1), .val (.int (1 : Int32))]) rfl) ?_
              show Go p e below s n0 _ _ _ (TJ142.setTop (mkF m 216 #[.val (.int f), .val (.int m'), .val (.long l0), .second, .val (.long l1), .second, .val (.long l2), .second, .val (.long l3), .second, .val (.int fr), .val (.long q0), .second, .val (.long q1), .second, .val (.long q2), .second, .val (.long q3), .second, .val (.ref b136), .val (.int (isz fr q0 q1 q2 q3)), .val (.int w1), .val (.int (1 : Int32))] []))
              refine Go.st (fun _ => XS.iload XJ142.here C.hx rfl (hb C.hby at_216) rfl) ?_
              show Go p e below s n0 _ _ _ (TJ142.setTop (mkF m 218 #[.val (.int f), .val (.int m'), .val (.long l0), .second, .val (.long l1), .second, .val (.long l2), .second, .val (.long l3), .second, .val (.int fr), .val (.long q0), .second, .val (.long q1), .second, .val (.long q2), .second, .val (.long q3), .second, .val (.ref b136), .val (.int (isz fr q0 q1 q2 q3)), .val (.int w1), .val (.int (1 : Int32))] [(.int (isz fr q0 q1 q2 q3))]))
              refine Go.st (fun _ => XS.iload XJ142.here C.hx rfl (hb C.hby at_218) rfl) ?_
              show Go p e below s n0 _ _ _ (TJ142.setTop (mkF m 220 #[.val (.int f), .val (.int m'), .val (.long l0), .second, .val (.long l1), .second, .val (.long l2), .second, .val (.long l3), .second, .val (.int fr), .val (.long q0), .second, .val (.long q1), .second, .val (.long q2), .second, .val (.long q3), .second, .val (.ref b136), .val (.int (isz fr q0 q1 q2 q3)), .val (.int w1), .val (.int (1 : Int32))] [(.int w1), (.int (isz fr q0 q1 q2 q3))]))
              refine Go.icmp_ne C XJ142 (pc' := 232) at_220 (by decide) (by decide) (fun hc => by first | exact absurd hc hj_w1.symm | exact absurd hj_w1.symm hc) (fun _ => ?_)
              show Go p e below s n0 _ _ _ (TJ142.setTop (mkF m 223 #[.val (.int f), .val (.int m'), .val (.long l0), .second, .val (.long l1), .second, .val (.long l2), .second, .val (.long l3), .second, .val (.int fr), .val (.long q0), .second, .val (.long q1), .second, .val (.long q2), .second, .val (.long q3), .second, .val (.ref b136), .val (.int (isz fr q0 q1 q2 q3)), .val (.int w1), .val (.int (1 : Int32))] []))
              refine Go.st (fun _ => XS.iload XJ142.here C.hx rfl (hb C.hby at_223) rfl) ?_
              show Go p e below s n0 _ _ _ (TJ142.setTop (mkF m 225 #[.val (.int f), .val (.int m'), .val (.long l0), .second, .val (.long l1), .second, .val (.long l2), .second, .val (.long l3), .second, .val (.int fr), .val (.long q0), .second, .val (.long q1), .second, .val (.long q2), .second, .val (.long q3), .second, .val (.ref b136), .val (.int (isz fr q0 q1 q2 q3)), .val (.int w1), .val (.int (1 : Int32))] [(.int (1 : Int32))]))
              refine Go.if_eq C XJ142 (pc' := 232) at_225 (by decide) (by decide) (fun hc => absurd hc (by decide)) (fun _ => ?_)
              show Go p e below s n0 _ _ _ (TJ142.setTop (mkF m 228 #[.val (.int f), .val (.int m'), .val (.long l0), .second, .val (.long l1), .second, .val (.long l2), .second, .val (.long l3), .second, .val (.int fr), .val (.long q0), .second, .val (.long q1), .second, .val (.long q2), .second, .val (.long q3), .second, .val (.ref b136), .val (.int (isz fr q0 q1 q2 q3)), .val (.int w1), .val (.int (1 : Int32))] []))
              refine Go.st (fun _ => XS.iconst XJ142.here C.hx rfl (hb C.hby at_228)) ?_
              show Go p e below s n0 _ _ _ (TJ142.setTop (mkF m 229 #[.val (.int f), .val (.int m'), .val (.long l0), .second, .val (.long l1), .second, .val (.long l2), .second, .val (.long l3), .second, .val (.int fr), .val (.long q0), .second, .val (.long q1), .second, .val (.long q2), .second, .val (.long q3), .second, .val (.ref b136), .val (.int (isz fr q0 q1 q2 q3)), .val (.int w1), .val (.int (1 : Int32))] [(.int (1 : Int32))]))
              refine Go.st (fun _ => XS.goto XJ142.here C.hx rfl (pc0 := 229) (pc' := 233) rfl (hb C.hby at_229) (by decide) (by decide)) ?_
              show Go p e below s n0 _ _ _ (TJ142.setTop (mkF m 233 #[.val (.int f), .val (.int m'), .val (.long l0), .second, .val (.long l1), .second, .val (.long l2), .second, .val (.long l3), .second, .val (.int fr), .val (.long q0), .second, .val (.long q1), .second, .val (.long q2), .second, .val (.long q3), .second, .val (.ref b136), .val (.int (isz fr q0 q1 q2 q3)), .val (.int w1), .val (.int (1 : Int32))] [(.int (1 : Int32))]))
              exact Go.retZ C XJ142 (by decide) at_233 rfl (by decide) (by decide)
            show Go p e below s n0 _ _ _ (T141.setTop (mkF m 111 #[.val (.int f), .val (.int m'), .val (.long l0), .second, .val (.long l1), .second, .val (.long l2), .second, .val (.long l3), .second, .val (.int fr), .val (.long q0), .second, .val (.long q1), .second, .val (.long q2), .second, .val (.long q3), .second, .val (.ref b136), .val (.int (isz fr q0 q1 q2 q3)), .unset, .unset] []))
            refine Go.st (fun _ => XS.iload X141.here C.hx rfl (hb C.hby at_111) rfl) ?_
            show Go p e below s n0 _ _ _ (T141.setTop (mkF m 113 #[.val (.int f), .val (.int m'), .val (.long l0), .second, .val (.long l1), .second, .val (.long l2), .second, .val (.long l3), .second, .val (.int fr), .val (.long q0), .second, .val (.long q1), .second, .val (.long q2), .second, .val (.long q3), .second, .val (.ref b136), .val (.int (isz fr q0 q1 q2 q3)), .unset, .unset] [(.int fr)]))
            refine Go.if_gt C X141 (pc' := 123) at_113 (by decide) (by decide) (fun hc113_149 => ?_) (fun hc113_149 => ?_)
            · show Go p e below s n0 _ _ _ (T141.setTop (mkF m 123 #[.val (.int f), .val (.int m'), .val (.long l0), .second, .val (.long l1), .second, .val (.long l2), .second, .val (.long l3), .second, .val (.int fr), .val (.long q0), .second, .val (.long q1), .second, .val (.long q2), .second, .val (.long q3), .second, .val (.ref b136), .val (.int (isz fr q0 q1 q2 q3)), .unset, .unset] []))
              refine Go.st (fun _ => XS.iload X141.here C.hx rfl (hb C.hby at_123) rfl) ?_
              show Go p e below s n0 _ _ _ (T141.setTop (mkF m 125 #[.val (.int f), .val (.int m'), .val (.long l0), .second, .val (.long l1), .second, .val (.long l2), .second, .val (.long l3), .second, .val (.int fr), .val (.long q0), .second, .val (.long q1), .second, .val (.long q2), .second, .val (.long q3), .second, .val (.ref b136), .val (.int (isz fr q0 q1 q2 q3)), .unset, .unset] [(.int fr)]))
              refine Go.st (fun _ => XS.iconst X141.here C.hx rfl (hb C.hby at_125)) ?_
              show Go p e below s n0 _ _ _ (T141.setTop (mkF m 126 #[.val (.int f), .val (.int m'), .val (.long l0), .second, .val (.long l1), .second, .val (.long l2), .second, .val (.long l3), .second, .val (.int fr), .val (.long q0), .second, .val (.long q1), .second, .val (.long q2), .second, .val (.long q3), .second, .val (.ref b136), .val (.int (isz fr q0 q1 q2 q3)), .unset, .unset] [(.int (1 : Int32)), (.int fr)]))
              refine Go.icmp_gt C X141 (pc' := 136) at_126 (by decide) (by decide) (fun hc126_150 => ?_) (fun hc126_150 => ?_)
              · show Go p e below s n0 _ _ _ (T141.setTop (mkF m 136 #[.val (.int f), .val (.int m'), .val (.long l0), .second, .val (.long l1), .second, .val (.long l2), .second, .val (.long l3), .second, .val (.int fr), .val (.long q0), .second, .val (.long q1), .second, .val (.long q2), .second, .val (.long q3), .second, .val (.ref b136), .val (.int (isz fr q0 q1 q2 q3)), .unset, .unset] []))
                refine Go.st (fun _ => XS.iload X141.here C.hx rfl (hb C.hby at_136) rfl) ?_
                show Go p e below s n0 _ _ _ (T141.setTop (mkF m 138 #[.val (.int f), .val (.int m'), .val (.long l0), .second, .val (.long l1), .second, .val (.long l2), .second, .val (.long l3), .second, .val (.int fr), .val (.long q0), .second, .val (.long q1), .second, .val (.long q2), .second, .val (.long q3), .second, .val (.ref b136), .val (.int (isz fr q0 q1 q2 q3)), .unset, .unset] [(.int fr)]))
                refine Go.st (fun _ => XS.iconst X141.here C.hx rfl (hb C.hby at_138)) ?_
                show Go p e below s n0 _ _ _ (T141.setTop (mkF m 139 #[.val (.int f), .val (.int m'), .val (.long l0), .second, .val (.long l1), .second, .val (.long l2), .second, .val (.long l3), .second, .val (.int fr), .val (.long q0), .second, .val (.long q1), .second, .val (.long q2), .second, .val (.long q3), .second, .val (.ref b136), .val (.int (isz fr q0 q1 q2 q3)), .unset, .unset] [(.int (2 : Int32)), (.int fr)]))
                refine Go.icmp_gt C X141 (pc' := 149) at_139 (by decide) (by decide) (fun hc139_151 => ?_) (fun hc139_151 => ?_)
                · show Go p e below s n0 _ _ _ (T141.setTop (mkF m 149 #[.val (.int f), .val (.int m'), .val (.long l0), .second, .val (.long l1), .second, .val (.long l2), .second, .val (.long l3), .second, .val (.int fr), .val (.long q0), .second, .val (.long q1), .second, .val (.long q2), .second, .val (.long q3), .second, .val (.ref b136), .val (.int (isz fr q0 q1 q2 q3)), .unset, .unset] []))
                  refine Go.st (fun _ => XS.iload X141.here C.hx rfl (hb C.hby at_149) rfl) ?_
                  show Go p e below s n0 _ _ _ (T141.setTop (mkF m 151 #[.val (.int f), .val (.int m'), .val (.long l0), .second, .val (.long l1), .second, .val (.long l2), .second, .val (.long l3), .second, .val (.int fr), .val (.long q0), .second, .val (.long q1), .second, .val (.long q2), .second, .val (.long q3), .second, .val (.ref b136), .val (.int (isz fr q0 q1 q2 q3)), .unset, .unset] [(.int fr)]))
                  refine Go.st (fun _ => XS.iconst X141.here C.hx rfl (hb C.hby at_151)) ?_
                  show Go p e below s n0 _ _ _ (T141.setTop (mkF m 152 #[.val (.int f), .val (.int m'), .val (.long l0), .second, .val (.long l1), .second, .val (.long l2), .second, .val (.long l3), .second, .val (.int fr), .val (.long q0), .second, .val (.long q1), .second, .val (.long q2), .second, .val (.long q3), .second, .val (.ref b136), .val (.int (isz fr q0 q1 q2 q3)), .unset, .unset] [(.int (3 : Int32)), (.int fr)]))
                  refine Go.icmp_gt C X141 (pc' := 162) at_152 (by decide) (by decide) (fun hc152_152 => ?_) (fun hc152_152 => ?_)
                  · show Go p e below s n0 _ _ _ (T141.setTop (mkF m 162 #[.val (.int f), .val (.int m'), .val (.long l0), .second, .val (.long l1), .second, .val (.long l2), .second, .val (.long l3), .second, .val (.int fr), .val (.long q0), .second, .val (.long q1), .second, .val (.long q2), .second, .val (.long q3), .second, .val (.ref b136), .val (.int (isz fr q0 q1 q2 q3)), .unset, .unset] []))
                    refine Go.st (fun _ => XS.iconst X141.here C.hx rfl (hb C.hby at_162)) ?_
                    show Go p e below s n0 _ _ _ (T141.setTop (mkF m 163 #[.val (.int f), .val (.int m'), .val (.long l0), .second, .val (.long l1), .second, .val (.long l2), .second, .val (.long l3), .second, .val (.int fr), .val (.long q0), .second, .val (.long q1), .second, .val (.long q2), .second, .val (.long q3), .second, .val (.ref b136), .val (.int (isz fr q0 q1 q2 q3)), .unset, .unset] [(.int (1 : Int32))]))
                    refine Go.st (fun _ => XS.goto X141.here C.hx rfl (pc0 := 163) (pc' := 167) rfl (hb C.hby at_163) (by decide) (by decide)) ?_
                    show Go p e below s n0 _ _ _ (T141.setTop (mkF m 167 #[.val (.int f), .val (.int m'), .val (.long l0), .second, .val (.long l1), .second, .val (.long l2), .second, .val (.long l3), .second, .val (.int fr), .val (.long q0), .second, .val (.long q1), .second, .val (.long q2), .second, .val (.long q3), .second, .val (.ref b136), .val (.int (isz fr q0 q1 q2 q3)), .unset, .unset] [(.int (1 : Int32))]))
                    exact J142 T141 (1 : Int32) X141 (by simp [isz, hc113_149, hc126_150, hc139_151, hc152_152])
                  · show Go p e below s n0 _ _ _ (T141.setTop (mkF m 155 #[.val (.int f), .val (.int m'), .val (.long l0), .second, .val (.long l1), .second, .val (.long l2), .second, .val (.long l3), .second, .val (.int fr), .val (.long q0), .second, .val (.long q1), .second, .val (.long q2), .second, .val (.long q3), .second, .val (.ref b136), .val (.int (isz fr q0 q1 q2 q3)), .unset, .unset] []))
                    refine Go.st (fun _ => XS.lload X141.here C.hx rfl (hb C.hby at_155) rfl) ?_
                    show Go p e below s n0 _ _ _ (T141.setTop (mkF m 157 #[.val (.int f), .val (.int m'), .val (.long l0), .second, .val (.long l1), .second, .val (.long l2), .second, .val (.long l3), .second, .val (.int fr), .val (.long q0), .second, .val (.long q1), .second, .val (.long q2), .second, .val (.long q3), .second, .val (.ref b136), .val (.int (isz fr q0 q1 q2 q3)), .unset, .unset] [(.long q3)]))
                    refine Go.st (fun _ => XS.lconst X141.here C.hx rfl (hb C.hby at_157)) ?_
                    show Go p e below s n0 _ _ _ (T141.setTop (mkF m 158 #[.val (.int f), .val (.int m'), .val (.long l0), .second, .val (.long l1), .second, .val (.long l2), .second, .val (.long l3), .second, .val (.int fr), .val (.long q0), .second, .val (.long q1), .second, .val (.long q2), .second, .val (.long q3), .second, .val (.ref b136), .val (.int (isz fr q0 q1 q2 q3)), .unset, .unset] [(.long (0 : Int64)), (.long q3)]))
                    refine Go.st (fun _ => XS.lcmp X141.here C.hx rfl (hb C.hby at_158) rfl) ?_
                    show Go p e below s n0 _ _ _ (T141.setTop (mkF m 159 #[.val (.int f), .val (.int m'), .val (.long l0), .second, .val (.long l1), .second, .val (.long l2), .second, .val (.long l3), .second, .val (.int fr), .val (.long q0), .second, .val (.long q1), .second, .val (.long q2), .second, .val (.long q3), .second, .val (.ref b136), .val (.int (isz fr q0 q1 q2 q3)), .unset, .unset] [(.int (lcmpW q3 (0 : Int64)))]))
                    refine Go.lif_ne C X141 (pc' := 166) at_159 (by decide) (by decide) (fun hc159_153 => ?_) (fun hc159_153 => ?_)
                    · show Go p e below s n0 _ _ _ (T141.setTop (mkF m 166 #[.val (.int f), .val (.int m'), .val (.long l0), .second, .val (.long l1), .second, .val (.long l2), .second, .val (.long l3), .second, .val (.int fr), .val (.long q0), .second, .val (.long q1), .second, .val (.long q2), .second, .val (.long q3), .second, .val (.ref b136), .val (.int (isz fr q0 q1 q2 q3)), .unset, .unset] []))
                      refine Go.st (fun _ => XS.iconst X141.here C.hx rfl (hb C.hby at_166)) ?_
                      show Go p e below s n0 _ _ _ (T141.setTop (mkF m 167 #[.val (.int f), .val (.int m'), .val (.long l0), .second, .val (.long l1), .second, .val (.long l2), .second, .val (.long l3), .second, .val (.int fr), .val (.long q0), .second, .val (.long q1), .second, .val (.long q2), .second, .val (.long q3), .second, .val (.ref b136), .val (.int (isz fr q0 q1 q2 q3)), .unset, .unset] [(.int (0 : Int32))]))
                      exact J142 T141 (0 : Int32) X141 (by simp [isz, hc113_149, hc126_150, hc139_151, hc152_152, hc159_153])
                    · show Go p e below s n0 _ _ _ (T141.setTop (mkF m 162 #[.val (.int f), .val (.int m'), .val (.long l0), .second, .val (.long l1), .second, .val (.long l2), .second, .val (.long l3), .second, .val (.int fr), .val (.long q0), .second, .val (.long q1), .second, .val (.long q2), .second, .val (.long q3), .second, .val (.ref b136), .val (.int (isz fr q0 q1 q2 q3)), .unset, .unset] []))
                      refine Go.st (fun _ => XS.iconst X141.here C.hx rfl (hb C.hby at_162)) ?_
                      show Go p e below s n0 _ _ _ (T141.setTop (mkF m 163 #[.val (.int f), .val (.int m'), .val (.long l0), .second, .val (.long l1), .second, .val (.long l2), .second, .val (.long l3), .second, .val (.int fr), .val (.long q0), .second, .val (.long q1), .second, .val (.long q2), .second, .val (.long q3), .second, .val (.ref b136), .val (.int (isz fr q0 q1 q2 q3)), .unset, .unset] [(.int (1 : Int32))]))
                      refine Go.st (fun _ => XS.goto X141.here C.hx rfl (pc0 := 163) (pc' := 167) rfl (hb C.hby at_163) (by decide) (by decide)) ?_
                      show Go p e below s n0 _ _ _ (T141.setTop (mkF m 167 #[.val (.int f), .val (.int m'), .val (.long l0), .second, .val (.long l1), .second, .val (.long l2), .second, .val (.long l3), .second, .val (.int fr), .val (.long q0), .second, .val (.long q1), .second, .val (.long q2), .second, .val (.long q3), .second, .val (.ref b136), .val (.int (isz fr q0 q1 q2 q3)), .unset, .unset] [(.int (1 : Int32))]))
                      exact J142 T141 (1 : Int32) X141 (by simp [isz, hc113_149, hc126_150, hc139_151, hc152_152, hc159_153])
                · show Go p e below s n0 _ _ _ (T141.setTop (mkF m 142 #[.val (.int f), .val (.int m'), .val (.long l0), .second, .val (.long l1), .second, .val (.long l2), .second, .val (.long l3), .second, .val (.int fr), .val (.long q0), .second, .val (.long q1), .second, .val (.long q2), .second, .val (.long q3), .second, .val (.ref b136), .val (.int (isz fr q0 q1 q2 q3)), .unset, .unset] []))
                  refine Go.st (fun _ => XS.lload X141.here C.hx rfl (hb C.hby at_142) rfl) ?_
                  show Go p e below s n0 _ _ _ (T141.setTop (mkF m 144 #[.val (.int f), .val (.int m'), .val (.long l0), .second, .val (.long l1), .second, .val (.long l2), .second, .val (.long l3), .second, .val (.int fr), .val (.long q0), .second, .val (.long q1), .second, .val (.long q2), .second, .val (.long q3), .second, .val (.ref b136), .val (.int (isz fr q0 q1 q2 q3)), .unset, .unset] [(.long q2)]))
                  refine Go.st (fun _ => XS.lconst X141.here C.hx rfl (hb C.hby at_144)) ?_
                  show Go p e below s n0 _ _ _ (T141.setTop (mkF m 145 #[.val (.int f), .val (.int m'), .val (.long l0), .second, .val (.long l1), .second, .val (.long l2), .second, .val (.long l3), .second, .val (.int fr), .val (.long q0), .second, .val (.long q1), .second, .val (.long q2), .second, .val (.long q3), .second, .val (.ref b136), .val (.int (isz fr q0 q1 q2 q3)), .unset, .unset] [(.long (0 : Int64)), (.long q2)]))
                  refine Go.st (fun _ => XS.lcmp X141.here C.hx rfl (hb C.hby at_145) rfl) ?_
                  show Go p e below s n0 _ _ _ (T141.setTop (mkF m 146 #[.val (.int f), .val (.int m'), .val (.long l0), .second, .val (.long l1), .second, .val (.long l2), .second, .val (.long l3), .second, .val (.int fr), .val (.long q0), .second, .val (.long q1), .second, .val (.long q2), .second, .val (.long q3), .second, .val (.ref b136), .val (.int (isz fr q0 q1 q2 q3)), .unset, .unset] [(.int (lcmpW q2 (0 : Int64)))]))
                  refine Go.lif_ne C X141 (pc' := 166) at_146 (by decide) (by decide) (fun hc146_154 => ?_) (fun hc146_154 => ?_)
                  · show Go p e below s n0 _ _ _ (T141.setTop (mkF m 166 #[.val (.int f), .val (.int m'), .val (.long l0), .second, .val (.long l1), .second, .val (.long l2), .second, .val (.long l3), .second, .val (.int fr), .val (.long q0), .second, .val (.long q1), .second, .val (.long q2), .second, .val (.long q3), .second, .val (.ref b136), .val (.int (isz fr q0 q1 q2 q3)), .unset, .unset] []))
                    refine Go.st (fun _ => XS.iconst X141.here C.hx rfl (hb C.hby at_166)) ?_
                    show Go p e below s n0 _ _ _ (T141.setTop (mkF m 167 #[.val (.int f), .val (.int m'), .val (.long l0), .second, .val (.long l1), .second, .val (.long l2), .second, .val (.long l3), .second, .val (.int fr), .val (.long q0), .second, .val (.long q1), .second, .val (.long q2), .second, .val (.long q3), .second, .val (.ref b136), .val (.int (isz fr q0 q1 q2 q3)), .unset, .unset] [(.int (0 : Int32))]))
                    exact J142 T141 (0 : Int32) X141 (by simp [isz, hc113_149, hc126_150, hc139_151, hc146_154])
                  · show Go p e below s n0 _ _ _ (T141.setTop (mkF m 149 #[.val (.int f), .val (.int m'), .val (.long l0), .second, .val (.long l1), .second, .val (.long l2), .second, .val (.long l3), .second, .val (.int fr), .val (.long q0), .second, .val (.long q1), .second, .val (.long q2), .second, .val (.long q3), .second, .val (.ref b136), .val (.int (isz fr q0 q1 q2 q3)), .unset, .unset] []))
                    refine Go.st (fun _ => XS.iload X141.here C.hx rfl (hb C.hby at_149) rfl) ?_
                    show Go p e below s n0 _ _ _ (T141.setTop (mkF m 151 #[.val (.int f), .val (.int m'), .val (.long l0), .second, .val (.long l1), .second, .val (.long l2), .second, .val (.long l3), .second, .val (.int fr), .val (.long q0), .second, .val (.long q1), .second, .val (.long q2), .second, .val (.long q3), .second, .val (.ref b136), .val (.int (isz fr q0 q1 q2 q3)), .unset, .unset] [(.int fr)]))
                    refine Go.st (fun _ => XS.iconst X141.here C.hx rfl (hb C.hby at_151)) ?_
                    show Go p e below s n0 _ _ _ (T141.setTop (mkF m 152 #[.val (.int f), .val (.int m'), .val (.long l0), .second, .val (.long l1), .second, .val (.long l2), .second, .val (.long l3), .second, .val (.int fr), .val (.long q0), .second, .val (.long q1), .second, .val (.long q2), .second, .val (.long q3), .second, .val (.ref b136), .val (.int (isz fr q0 q1 q2 q3)), .unset, .unset] [(.int (3 : Int32)), (.int fr)]))
                    refine Go.icmp_gt C X141 (pc' := 162) at_152 (by decide) (by decide) (fun hc152_155 => ?_) (fun hc152_155 => ?_)
                    · show Go p e below s n0 _ _ _ (T141.setTop (mkF m 162 #[.val (.int f), .val (.int m'), .val (.long l0), .second, .val (.long l1), .second, .val (.long l2), .second, .val (.long l3), .second, .val (.int fr), .val (.long q0), .second, .val (.long q1), .second, .val (.long q2), .second, .val (.long q3), .second, .val (.ref b136), .val (.int (isz fr q0 q1 q2 q3)), .unset, .unset] []))
                      refine Go.st (fun _ => XS.iconst X141.here C.hx rfl (hb C.hby at_162)) ?_
                      show Go p e below s n0 _ _ _ (T141.setTop (mkF m 163 #[.val (.int f), .val (.int m'), .val (.long l0), .second, .val (.long l1), .second, .val (.long l2), .second, .val (.long l3), .second, .val (.int fr), .val (.long q0), .second, .val (.long q1), .second, .val (.long q2), .second, .val (.long q3), .second, .val (.ref b136), .val (.int (isz fr q0 q1 q2 q3)), .unset, .unset] [(.int (1 : Int32))]))
                      refine Go.st (fun _ => XS.goto X141.here C.hx rfl (pc0 := 163) (pc' := 167) rfl (hb C.hby at_163) (by decide) (by decide)) ?_
                      show Go p e below s n0 _ _ _ (T141.setTop (mkF m 167 #[.val (.int f), .val (.int m'), .val (.long l0), .second, .val (.long l1), .second, .val (.long l2), .second, .val (.long l3), .second, .val (.int fr), .val (.long q0), .second, .val (.long q1), .second, .val (.long q2), .second, .val (.long q3), .second, .val (.ref b136), .val (.int (isz fr q0 q1 q2 q3)), .unset, .unset] [(.int (1 : Int32))]))
                      exact J142 T141 (1 : Int32) X141 (by simp [isz, hc113_149, hc126_150, hc139_151, hc146_154, hc152_155])
                    · show Go p e below s n0 _ _ _ (T141.setTop (mkF m 155 #[.val (.int f), .val (.int m'), .val (.long l0), .second, .val (.long l1), .second, .val (.long l2), .second, .val (.long l3), .second, .val (.int fr), .val (.long q0), .second, .val (.long q1), .second, .val (.long q2), .second, .val (.long q3), .second, .val (.ref b136), .val (.int (isz fr q0 q1 q2 q3)), .unset, .unset] []))
                      refine Go.st (fun _ => XS.lload X141.here C.hx rfl (hb C.hby at_155) rfl) ?_
                      show Go p e below s n0 _ _ _ (T141.setTop (mkF m 157 #[.val (.int f), .val (.int m'), .val (.long l0), .second, .val (.long l1), .second, .val (.long l2), .second, .val (.long l3), .second, .val (.int fr), .val (.long q0), .second, .val (.long q1), .second, .val (.long q2), .second, .val (.long q3), .second, .val (.ref b136), .val (.int (isz fr q0 q1 q2 q3)), .unset, .unset] [(.long q3)]))
                      refine Go.st (fun _ => XS.lconst X141.here C.hx rfl (hb C.hby at_157)) ?_
                      show Go p e below s n0 _ _ _ (T141.setTop (mkF m 158 #[.val (.int f), .val (.int m'), .val (.long l0), .second, .val (.long l1), .second, .val (.long l2), .second, .val (.long l3), .second, .val (.int fr), .val (.long q0), .second, .val (.long q1), .second, .val (.long q2), .second, .val (.long q3), .second, .val (.ref b136), .val (.int (isz fr q0 q1 q2 q3)), .unset, .unset] [(.long (0 : Int64)), (.long q3)]))
                      refine Go.st (fun _ => XS.lcmp X141.here C.hx rfl (hb C.hby at_158) rfl) ?_
                      show Go p e below s n0 _ _ _ (T141.setTop (mkF m 159 #[.val (.int f), .val (.int m'), .val (.long l0), .second, .val (.long l1), .second, .val (.long l2), .second, .val (.long l3), .second, .val (.int fr), .val (.long q0), .second, .val (.long q1), .second, .val (.long q2), .second, .val (.long q3), .second, .val (.ref b136), .val (.int (isz fr q0 q1 q2 q3)), .unset, .unset] [(.int (lcmpW q3 (0 : Int64)))]))
                      refine Go.lif_ne C X141 (pc' := 166) at_159 (by decide) (by decide) (fun hc159_156 => ?_) (fun hc159_156 => ?_)
                      · show Go p e below s n0 _ _ _ (T141.setTop (mkF m 166 #[.val (.int f), .val (.int m'), .val (.long l0), .second, .val (.long l1), .second, .val (.long l2), .second, .val (.long l3), .second, .val (.int fr), .val (.long q0), .second, .val (.long q1), .second, .val (.long q2), .second, .val (.long q3), .second, .val (.ref b136), .val (.int (isz fr q0 q1 q2 q3)), .unset, .unset] []))
                        refine Go.st (fun _ => XS.iconst X141.here C.hx rfl (hb C.hby at_166)) ?_
                        show Go p e below s n0 _ _ _ (T141.setTop (mkF m 167 #[.val (.int f), .val (.int m'), .val (.long l0), .second, .val (.long l1), .second, .val (.long l2), .second, .val (.long l3), .second, .val (.int fr), .val (.long q0), .second, .val (.long q1), .second, .val (.long q2), .second, .val (.long q3), .second, .val (.ref b136), .val (.int (isz fr q0 q1 q2 q3)), .unset, .unset] [(.int (0 : Int32))]))
                        exact J142 T141 (0 : Int32) X141 (by simp [isz, hc113_149, hc126_150, hc139_151, hc146_154, hc152_155, hc159_156])
                      · show Go p e below s n0 _ _ _ (T141.setTop (mkF m 162 #[.val (.int f), .val (.int m'), .val (.long l0), .second, .val (.long l1), .second, .val (.long l2), .second, .val (.long l3), .second, .val (.int fr), .val (.long q0), .second, .val (.long q1), .second, .val (.long q2), .second, .val (.long q3), .second, .val (.ref b136), .val (.int (isz fr q0 q1 q2 q3)), .unset, .unset] []))
                        refine Go.st (fun _ => XS.iconst X141.here C.hx rfl (hb C.hby at_162)) ?_
                        show Go p e below s n0 _ _ _ (T141.setTop (mkF m 163 #[.val (.int f), .val (.int m'), .val (.long l0), .second, .val (.long l1), .second, .val (.long l2), .second, .val (.long l3), .second, .val (.int fr), .val (.long q0), .second, .val (.long q1), .second, .val (.long q2), .second, .val (.long q3), .second, .val (.ref b136), .val (.int (isz fr q0 q1 q2 q3)), .unset, .unset] [(.int (1 : Int32))]))
                        refine Go.st (fun _ => XS.goto X141.here C.hx rfl (pc0 := 163) (pc' := 167) rfl (hb C.hby at_163) (by decide) (by decide)) ?_
                        show Go p e below s n0 _ _ _ (T141.setTop (mkF m 167 #[.val (.int f), .val (.int m'), .val (.long l0), .second, .val (.long l1), .second, .val (.long l2), .second, .val (.long l3), .second, .val (.int fr), .val (.long q0), .second, .val (.long q1), .second, .val (.long q2), .second, .val (.long q3), .second, .val (.ref b136), .val (.int (isz fr q0 q1 q2 q3)), .unset, .unset] [(.int (1 : Int32))]))
                        exact J142 T141 (1 : Int32) X141 (by simp [isz, hc113_149, hc126_150, hc139_151, hc146_154, hc152_155, hc159_156])
              · show Go p e below s n0 _ _ _ (T141.setTop (mkF m 129 #[.val (.int f), .val (.int m'), .val (.long l0), .second, .val (.long l1), .second, .val (.long l2), .second, .val (.long l3), .second, .val (.int fr), .val (.long q0), .second, .val (.long q1), .second, .val (.long q2), .second, .val (.long q3), .second, .val (.ref b136), .val (.int (isz fr q0 q1 q2 q3)), .unset, .unset] []))
                refine Go.st (fun _ => XS.lload X141.here C.hx rfl (hb C.hby at_129) rfl) ?_
                show Go p e below s n0 _ _ _ (T141.setTop (mkF m 131 #[.val (.int f), .val (.int m'), .val (.long l0), .second, .val (.long l1), .second, .val (.long l2), .second, .val (.long l3), .second, .val (.int fr), .val (.long q0), .second, .val (.long q1), .second, .val (.long q2), .second, .val (.long q3), .second, .val (.ref b136), .val (.int (isz fr q0 q1 q2 q3)), .unset, .unset] [(.long q1)]))
                refine Go.st (fun _ => XS.lconst X141.here C.hx rfl (hb C.hby at_131)) ?_
                show Go p e below s n0 _ _ _ (T141.setTop (mkF m 132 #[.val (.int f), .val (.int m'), .val (.long l0), .second, .val (.long l1), .second, .val (.long l2), .second, .val (.long l3), .second, .val (.int fr), .val (.long q0), .second, .val (.long q1), .second, .val (.long q2), .second, .val (.long q3), .second, .val (.ref b136), .val (.int (isz fr q0 q1 q2 q3)), .unset, .unset] [(.long (0 : Int64)), (.long q1)]))
                refine Go.st (fun _ => XS.lcmp X141.here C.hx rfl (hb C.hby at_132) rfl) ?_
                show Go p e below s n0 _ _ _ (T141.setTop (mkF m 133 #[.val (.int f), .val (.int m'), .val (.long l0), .second, .val (.long l1), .second, .val (.long l2), .second, .val (.long l3), .second, .val (.int fr), .val (.long q0), .second, .val (.long q1), .second, .val (.long q2), .second, .val (.long q3), .second, .val (.ref b136), .val (.int (isz fr q0 q1 q2 q3)), .unset, .unset] [(.int (lcmpW q1 (0 : Int64)))]))
                refine Go.lif_ne C X141 (pc' := 166) at_133 (by decide) (by decide) (fun hc133_157 => ?_) (fun hc133_157 => ?_)
                · show Go p e below s n0 _ _ _ (T141.setTop (mkF m 166 #[.val (.int f), .val (.int m'), .val (.long l0), .second, .val (.long l1), .second, .val (.long l2), .second, .val (.long l3), .second, .val (.int fr), .val (.long q0), .second, .val (.long q1), .second, .val (.long q2), .second, .val (.long q3), .second, .val (.ref b136), .val (.int (isz fr q0 q1 q2 q3)), .unset, .unset] []))
                  refine Go.st (fun _ => XS.iconst X141.here C.hx rfl (hb C.hby at_166)) ?_
                  show Go p e below s n0 _ _ _ (T141.setTop (mkF m 167 #[.val (.int f), .val (.int m'), .val (.long l0), .second, .val (.long l1), .second, .val (.long l2), .second, .val (.long l3), .second, .val (.int fr), .val (.long q0), .second, .val (.long q1), .second, .val (.long q2), .second, .val (.long q3), .second, .val (.ref b136), .val (.int (isz fr q0 q1 q2 q3)), .unset, .unset] [(.int (0 : Int32))]))
                  exact J142 T141 (0 : Int32) X141 (by simp [isz, hc113_149, hc126_150, hc133_157])
                · show Go p e below s n0 _ _ _ (T141.setTop (mkF m 136 #[.val (.int f), .val (.int m'), .val (.long l0), .second, .val (.long l1), .second, .val (.long l2), .second, .val (.long l3), .second, .val (.int fr), .val (.long q0), .second, .val (.long q1), .second, .val (.long q2), .second, .val (.long q3), .second, .val (.ref b136), .val (.int (isz fr q0 q1 q2 q3)), .unset, .unset] []))
                  refine Go.st (fun _ => XS.iload X141.here C.hx rfl (hb C.hby at_136) rfl) ?_
                  show Go p e below s n0 _ _ _ (T141.setTop (mkF m 138 #[.val (.int f), .val (.int m'), .val (.long l0), .second, .val (.long l1), .second, .val (.long l2), .second, .val (.long l3), .second, .val (.int fr), .val (.long q0), .second, .val (.long q1), .second, .val (.long q2), .second, .val (.long q3), .second, .val (.ref b136), .val (.int (isz fr q0 q1 q2 q3)), .unset, .unset] [(.int fr)]))
                  refine Go.st (fun _ => XS.iconst X141.here C.hx rfl (hb C.hby at_138)) ?_
                  show Go p e below s n0 _ _ _ (T141.setTop (mkF m 139 #[.val (.int f), .val (.int m'), .val (.long l0), .second, .val (.long l1), .second, .val (.long l2), .second, .val (.long l3), .second, .val (.int fr), .val (.long q0), .second, .val (.long q1), .second, .val (.long q2), .second, .val (.long q3), .second, .val (.ref b136), .val (.int (isz fr q0 q1 q2 q3)), .unset, .unset] [(.int (2 : Int32)), (.int fr)]))
                  refine Go.icmp_gt C X141 (pc' := 149) at_139 (by decide) (by decide) (fun hc139_158 => ?_) (fun hc139_158 => ?_)
                  · show Go p e below s n0 _ _ _ (T141.setTop (mkF m 149 #[.val (.int f), .val (.int m'), .val (.long l0), .second, .val (.long l1), .second, .val (.long l2), .second, .val (.long l3), .second, .val (.int fr), .val (.long q0), .second, .val (.long q1), .second, .val (.long q2), .second, .val (.long q3), .second, .val (.ref b136), .val (.int (isz fr q0 q1 q2 q3)), .unset, .unset] []))
                    refine Go.st (fun _ => XS.iload X141.here C.hx rfl (hb C.hby at_149) rfl) ?_
                    show Go p e below s n0 _ _ _ (T141.setTop (mkF m 151 #[.val (.int f), .val (.int m'), .val (.long l0), .second, .val (.long l1), .second, .val (.long l2), .second, .val (.long l3), .second, .val (.int fr), .val (.long q0), .second, .val (.long q1), .second, .val (.long q2), .second, .val (.long q3), .second, .val (.ref b136), .val (.int (isz fr q0 q1 q2 q3)), .unset, .unset] [(.int fr)]))
                    refine Go.st (fun _ => XS.iconst X141.here C.hx rfl (hb C.hby at_151)) ?_
                    show Go p e below s n0 _ _ _ (T141.setTop (mkF m 152 #[.val (.int f), .val (.int m'), .val (.long l0), .second, .val (.long l1), .second, .val (.long l2), .second, .val (.long l3), .second, .val (.int fr), .val (.long q0), .second, .val (.long q1), .second, .val (.long q2), .second, .val (.long q3), .second, .val (.ref b136), .val (.int (isz fr q0 q1 q2 q3)), .unset, .unset] [(.int (3 : Int32)), (.int fr)]))
                    refine Go.icmp_gt C X141 (pc' := 162) at_152 (by decide) (by decide) (fun hc152_159 => ?_) (fun hc152_159 => ?_)
                    · show Go p e below s n0 _ _ _ (T141.setTop (mkF m 162 #[.val (.int f), .val (.int m'), .val (.long l0), .second, .val (.long l1), .second, .val (.long l2), .second, .val (.long l3), .second, .val (.int fr), .val (.long q0), .second, .val (.long q1), .second, .val (.long q2), .second, .val (.long q3), .second, .val (.ref b136), .val (.int (isz fr q0 q1 q2 q3)), .unset, .unset] []))
                      refine Go.st (fun _ => XS.iconst X141.here C.hx rfl (hb C.hby at_162)) ?_
                      show Go p e below s n0 _ _ _ (T141.setTop (mkF m 163 #[.val (.int f), .val (.int m'), .val (.long l0), .second, .val (.long l1), .second, .val (.long l2), .second, .val (.long l3), .second, .val (.int fr), .val (.long q0), .second, .val (.long q1), .second, .val (.long q2), .second, .val (.long q3), .second, .val (.ref b136), .val (.int (isz fr q0 q1 q2 q3)), .unset, .unset] [(.int (1 : Int32))]))
                      refine Go.st (fun _ => XS.goto X141.here C.hx rfl (pc0 := 163) (pc' := 167) rfl (hb C.hby at_163) (by decide) (by decide)) ?_
                      show Go p e below s n0 _ _ _ (T141.setTop (mkF m 167 #[.val (.int f), .val (.int m'), .val (.long l0), .second, .val (.long l1), .second, .val (.long l2), .second, .val (.long l3), .second, .val (.int fr), .val (.long q0), .second, .val (.long q1), .second, .val (.long q2), .second, .val (.long q3), .second, .val (.ref b136), .val (.int (isz fr q0 q1 q2 q3)), .unset, .unset] [(.int (1 : Int32))]))
                      exact J142 T141 (1 : Int32) X141 (by simp [isz, hc113_149, hc126_150, hc133_157, hc139_158, hc152_159])
                    · show Go p e below s n0 _ _ _ (T141.setTop (mkF m 155 #[.val (.int f), .val (.int m'), .val (.long l0), .second, .val (.long l1), .second, .val (.long l2), .second, .val (.long l3), .second, .val (.int fr), .val (.long q0), .second, .val (.long q1), .second, .val (.long q2), .second, .val (.long q3), .second, .val (.ref b136), .val (.int (isz fr q0 q1 q2 q3)), .unset, .unset] []))
                      refine Go.st (fun _ => XS.lload X141.here C.hx rfl (hb C.hby at_155) rfl) ?_
                      show Go p e below s n0 _ _ _ (T141.setTop (mkF m 157 #[.val (.int f), .val (.int m'), .val (.long l0), .second, .val (.long l1), .second, .val (.long l2), .second, .val (.long l3), .second, .val (.int fr), .val (.long q0), .second, .val (.long q1), .second, .val (.long q2), .second, .val (.long q3), .second, .val (.ref b136), .val (.int (isz fr q0 q1 q2 q3)), .unset, .unset] [(.long q3)]))
                      refine Go.st (fun _ => XS.lconst X141.here C.hx rfl (hb C.hby at_157)) ?_
                      show Go p e below s n0 _ _ _ (T141.setTop (mkF m 158 #[.val (.int f), .val (.int m'), .val (.long l0), .second, .val (.long l1), .second, .val (.long l2), .second, .val (.long l3), .second, .val (.int fr), .val (.long q0), .second, .val (.long q1), .second, .val (.long q2), .second, .val (.long q3), .second, .val (.ref b136), .val (.int (isz fr q0 q1 q2 q3)), .unset, .unset] [(.long (0 : Int64)), (.long q3)]))
                      refine Go.st (fun _ => XS.lcmp X141.here C.hx rfl (hb C.hby at_158) rfl) ?_
                      show Go p e below s n0 _ _ _ (T141.setTop (mkF m 159 #[.val (.int f), .val (.int m'), .val (.long l0), .second, .val (.long l1), .second, .val (.long l2), .second, .val (.long l3), .second, .val (.int fr), .val (.long q0), .second, .val (.long q1), .second, .val (.long q2), .second, .val (.long q3), .second, .val (.ref b136), .val (.int (isz fr q0 q1 q2 q3)), .unset, .unset] [(.int (lcmpW q3 (0 : Int64)))]))
                      refine Go.lif_ne C X141 (pc' := 166) at_159 (by decide) (by decide) (fun hc159_160 => ?_) (fun hc159_160 => ?_)
                      · show Go p e below s n0 _ _ _ (T141.setTop (mkF m 166 #[.val (.int f), .val (.int m'), .val (.long l0), .second, .val (.long l1), .second, .val (.long l2), .second, .val (.long l3), .second, .val (.int fr), .val (.long q0), .second, .val (.long q1), .second, .val (.long q2), .second, .val (.long q3), .second, .val (.ref b136), .val (.int (isz fr q0 q1 q2 q3)), .unset, .unset] []))
                        refine Go.st (fun _ => XS.iconst X141.here C.hx rfl (hb C.hby at_166)) ?_
                        show Go p e below s n0 _ _ _ (T141.setTop (mkF m 167 #[.val (.int f), .val (.int m'), .val (.long l0), .second, .val (.long l1), .second, .val (.long l2), .second, .val (.long l3), .second, .val (.int fr), .val (.long q0), .second, .val (.long q1), .second, .val (.long q2), .second, .val (.long q3), .second, .val (.ref b136), .val (.int (isz fr q0 q1 q2 q3)), .unset, .unset] [(.int (0 : Int32))]))
                        exact J142 T141 (0 : Int32) X141 (by simp [isz, hc113_149, hc126_150, hc133_157, hc139_158, hc152_159, hc159_160])
                      · show Go p e below s n0 _ _ _ (T141.setTop (mkF m 162 #[.val (.int f), .val (.int m'), .val (.long l0), .second, .val (.long l1), .second, .val (.long l2), .second, .val (.long l3), .second, .val (.int fr), .val (.long q0), .second, .val (.long q1), .second, .val (.long q2), .second, .val (.long q3), .second, .val (.ref b136), .val (.int (isz fr q0 q1 q2 q3)), .unset, .unset] []))
                        refine Go.st (fun _ => XS.iconst X141.here C.hx rfl (hb C.hby at_162)) ?_
                        show Go p e below s n0 _ _ _ (T141.setTop (mkF m 163 #[.val (.int f), .val (.int m'), .val (.long l0), .second, .val (.long l1), .second, .val (.long l2), .second, .val (.long l3), .second, .val (.int fr), .val (.long q0), .second, .val (.long q1), .second, .val (.long q2), .second, .val (.long q3), .second, .val (.ref b136), .val (.int (isz fr q0 q1 q2 q3)), .unset, .unset] [(.int (1 : Int32))]))
                        refine Go.st (fun _ => XS.goto X141.here C.hx rfl (pc0 := 163) (pc' := 167) rfl (hb C.hby at_163) (by decide) (by decide)) ?_
                        show Go p e below s n0 _ _ _ (T141.setTop (mkF m 167 #[.val (.int f), .val (.int m'), .val (.long l0), .second, .val (.long l1), .second, .val (.long l2), .second, .val (.long l3), .second, .val (.int fr), .val (.long q0), .second, .val (.long q1), .second, .val (.long q2), .second, .val (.long q3), .second, .val (.ref b136), .val (.int (isz fr q0 q1 q2 q3)), .unset, .unset] [(.int (1 : Int32))]))
                        exact J142 T141 (1 : Int32) X141 (by simp [isz, hc113_149, hc126_150, hc133_157, hc139_158, hc152_159, hc159_160])
                  · show Go p e below s n0 _ _ _ (T141.setTop (mkF m 142 #[.val (.int f), .val (.int m'), .val (.long l0), .second, .val (.long l1), .second, .val (.long l2), .second, .val (.long l3), .second, .val (.int fr), .val (.long q0), .second, .val (.long q1), .second, .val (.long q2), .second, .val (.long q3), .second, .val (.ref b136), .val (.int (isz fr q0 q1 q2 q3)), .unset, .unset] []))
                    refine Go.st (fun _ => XS.lload X141.here C.hx rfl (hb C.hby at_142) rfl) ?_
                    show Go p e below s n0 _ _ _ (T141.setTop (mkF m 144 #[.val (.int f), .val (.int m'), .val (.long l0), .second, .val (.long l1), .second, .val (.long l2), .second, .val (.long l3), .second, .val (.int fr), .val (.long q0), .second, .val (.long q1), .second, .val (.long q2), .second, .val (.long q3), .second, .val (.ref b136), .val (.int (isz fr q0 q1 q2 q3)), .unset, .unset] [(.long q2)]))
                    refine Go.st (fun _ => XS.lconst X141.here C.hx rfl (hb C.hby at_144)) ?_
                    show Go p e below s n0 _ _ _ (T141.setTop (mkF m 145 #[.val (.int f), .val (.int m'), .val (.long l0), .second, .val (.long l1), .second, .val (.long l2), .second, .val (.long l3), .second, .val (.int fr), .val (.long q0), .second, .val (.long q1), .second, .val (.long q2), .second, .val (.long q3), .second, .val (.ref b136), .val (.int (isz fr q0 q1 q2 q3)), .unset, .unset] [(.long (0 : Int64)), (.long q2)]))
                    refine Go.st (fun _ => XS.lcmp X141.here C.hx rfl (hb C.hby at_145) rfl) ?_
                    show Go p e below s n0 _ _ _ (T141.setTop (mkF m 146 #[.val (.int f), .val (.int m'), .val (.long l0), .second, .val (.long l1), .second, .val (.long l2), .second, .val (.long l3), .second, .val (.int fr), .val (.long q0), .second, .val (.long q1), .second, .val (.long q2), .second, .val (.long q3), .second, .val (.ref b136), .val (.int (isz fr q0 q1 q2 q3)), .unset, .unset] [(.int (lcmpW q2 (0 : Int64)))]))
                    refine Go.lif_ne C X141 (pc' := 166) at_146 (by decide) (by decide) (fun hc146_161 => ?_) (fun hc146_161 => ?_)
                    · show Go p e below s n0 _ _ _ (T141.setTop (mkF m 166 #[.val (.int f), .val (.int m'), .val (.long l0), .second, .val (.long l1), .second, .val (.long l2), .second, .val (.long l3), .second, .val (.int fr), .val (.long q0), .second, .val (.long q1), .second, .val (.long q2), .second, .val (.long q3), .second, .val (.ref b136), .val (.int (isz fr q0 q1 q2 q3)), .unset, .unset] []))
                      refine Go.st (fun _ => XS.iconst X141.here C.hx rfl (hb C.hby at_166)) ?_
                      show Go p e below s n0 _ _ _ (T141.setTop (mkF m 167 #[.val (.int f), .val (.int m'), .val (.long l0), .second, .val (.long l1), .second, .val (.long l2), .second, .val (.long l3), .second, .val (.int fr), .val (.long q0), .second, .val (.long q1), .second, .val (.long q2), .second, .val (.long q3), .second, .val (.ref b136), .val (.int (isz fr q0 q1 q2 q3)), .unset, .unset] [(.int (0 : Int32))]))
                      exact J142 T141 (0 : Int32) X141 (by simp [isz, hc113_149, hc126_150, hc133_157, hc139_158, hc146_161])
                    · show Go p e below s n0 _ _ _ (T141.setTop (mkF m 149 #[.val (.int f), .val (.int m'), .val (.long l0), .second, .val (.long l1), .second, .val (.long l2), .second, .val (.long l3), .second, .val (.int fr), .val (.long q0), .second, .val (.long q1), .second, .val (.long q2), .second, .val (.long q3), .second, .val (.ref b136), .val (.int (isz fr q0 q1 q2 q3)), .unset, .unset] []))
                      refine Go.st (fun _ => XS.iload X141.here C.hx rfl (hb C.hby at_149) rfl) ?_
                      show Go p e below s n0 _ _ _ (T141.setTop (mkF m 151 #[.val (.int f), .val (.int m'), .val (.long l0), .second, .val (.long l1), .second, .val (.long l2), .second, .val (.long l3), .second, .val (.int fr), .val (.long q0), .second, .val (.long q1), .second, .val (.long q2), .second, .val (.long q3), .second, .val (.ref b136), .val (.int (isz fr q0 q1 q2 q3)), .unset, .unset] [(.int fr)]))
                      refine Go.st (fun _ => XS.iconst X141.here C.hx rfl (hb C.hby at_151)) ?_
                      show Go p e below s n0 _ _ _ (T141.setTop (mkF m 152 #[.val (.int f), .val (.int m'), .val (.long l0), .second, .val (.long l1), .second, .val (.long l2), .second, .val (.long l3), .second, .val (.int fr), .val (.long q0), .second, .val (.long q1), .second, .val (.long q2), .second, .val (.long q3), .second, .val (.ref b136), .val (.int (isz fr q0 q1 q2 q3)), .unset, .unset] [(.int (3 : Int32)), (.int fr)]))
                      refine Go.icmp_gt C X141 (pc' := 162) at_152 (by decide) (by decide) (fun hc152_162 => ?_) (fun hc152_162 => ?_)
                      · show Go p e below s n0 _ _ _ (T141.setTop (mkF m 162 #[.val (.int f), .val (.int m'), .val (.long l0), .second, .val (.long l1), .second, .val (.long l2), .second, .val (.long l3), .second, .val (.int fr), .val (.long q0), .second, .val (.long q1), .second, .val (.long q2), .second, .val (.long q3), .second, .val (.ref b136), .val (.int (isz fr q0 q1 q2 q3)), .unset, .unset] []))
                        refine Go.st (fun _ => XS.iconst X141.here C.hx rfl (hb C.hby at_162)) ?_
                        show Go p e below s n0 _ _ _ (T141.setTop (mkF m 163 #[.val (.int f), .val (.int m'), .val (.long l0), .second, .val (.long l1), .second, .val (.long l2), .second, .val (.long l3), .second, .val (.int fr), .val (.long q0), .second, .val (.long q1), .second, .val (.long q2), .second, .val (.long q3), .second, .val (.ref b136), .val (.int (isz fr q0 q1 q2 q3)), .unset, .unset] [(.int (1 : Int32))]))
                        refine Go.st (fun _ => XS.goto X141.here C.hx rfl (pc0 := 163) (pc' := 167) rfl (hb C.hby at_163) (by decide) (by decide)) ?_
                        show Go p e below s n0 _ _ _ (T141.setTop (mkF m 167 #[.val (.int f), .val (.int m'), .val (.long l0), .second, .val (.long l1), .second, .val (.long l2), .second, .val (.long l3), .second, .val (.int fr), .val (.long q0), .second, .val (.long q1), .second, .val (.long q2), .second, .val (.long q3), .second, .val (.ref b136), .val (.int (isz fr q0 q1 q2 q3)), .unset, .unset] [(.int (1 : Int32))]))
                        exact J142 T141 (1 : Int32) X141 (by simp [isz, hc113_149, hc126_150, hc133_157, hc139_158, hc146_161, hc152_162])
                      · show Go p e below s n0 _ _ _ (T141.setTop (mkF m 155 #[.val (.int f), .val (.int m'), .val (.long l0), .second, .val (.long l1), .second, .val (.long l2), .second, .val (.long l3), .second, .val (.int fr), .val (.long q0), .second, .val (.long q1), .second, .val (.long q2), .second, .val (.long q3), .second, .val (.ref b136), .val (.int (isz fr q0 q1 q2 q3)), .unset, .unset] []))
                        refine Go.st (fun _ => XS.lload X141.here C.hx rfl (hb C.hby at_155) rfl) ?_
                        show Go p e below s n0 _ _ _ (T141.setTop (mkF m 157 #[.val (.int f), .val (.int m'), .val (.long l0), .second, .val (.long l1), .second, .val (.long l2), .second, .val (.long l3), .second, .val (.int fr), .val (.long q0), .second, .val (.long q1), .second, .val (.long q2), .second, .val (.long q3), .second, .val (.ref b136), .val (.int (isz fr q0 q1 q2 q3)), .unset, .unset] [(.long q3)]))
                        refine Go.st (fun _ => XS.lconst X141.here C.hx rfl (hb C.hby at_157)) ?_
                        show Go p e below s n0 _ _ _ (T141.setTop (mkF m 158 #[.val (.int f), .val (.int m'), .val (.long l0), .second, .val (.long l1), .second, .val (.long l2), .second, .val (.long l3), .second, .val (.int fr), .val (.long q0), .second, .val (.long q1), .second, .val (.long q2), .second, .val (.long q3), .second, .val (.ref b136), .val (.int (isz fr q0 q1 q2 q3)), .unset, .unset] [(.long (0 : Int64)), (.long q3)]))
                        refine Go.st (fun _ => XS.lcmp X141.here C.hx rfl (hb C.hby at_158) rfl) ?_
                        show Go p e below s n0 _ _ _ (T141.setTop (mkF m 159 #[.val (.int f), .val (.int m'), .val (.long l0), .second, .val (.long l1), .second, .val (.long l2), .second, .val (.long l3), .second, .val (.int fr), .val (.long q0), .second, .val (.long q1), .second, .val (.long q2), .second, .val (.long q3), .second, .val (.ref b136), .val (.int (isz fr q0 q1 q2 q3)), .unset, .unset] [(.int (lcmpW q3 (0 : Int64)))]))
                        refine Go.lif_ne C X141 (pc' := 166) at_159 (by decide) (by decide) (fun hc159_163 => ?_) (fun hc159_163 => ?_)
                        · show Go p e below s n0 _ _ _ (T141.setTop (mkF m 166 #[.val (.int f), .val (.int m'), .val (.long l0), .second, .val (.long l1), .second, .val (.long l2), .second, .val (.long l3), .second, .val (.int fr), .val (.long q0), .second, .val (.long q1), .second, .val (.long q2), .second, .val (.long q3), .second, .val (.ref b136), .val (.int (isz fr q0 q1 q2 q3)), .unset, .unset] []))
                          refine Go.st (fun _ => XS.iconst X141.here C.hx rfl (hb C.hby at_166)) ?_
                          show Go p e below s n0 _ _ _ (T141.setTop (mkF m 167 #[.val (.int f), .val (.int m'), .val (.long l0), .second, .val (.long l1), .second, .val (.long l2), .second, .val (.long l3), .second, .val (.int fr), .val (.long q0), .second, .val (.long q1), .second, .val (.long q2), .second, .val (.long q3), .second, .val (.ref b136), .val (.int (isz fr q0 q1 q2 q3)), .unset, .unset] [(.int (0 : Int32))]))
                          exact J142 T141 (0 : Int32) X141 (by simp [isz, hc113_149, hc126_150, hc133_157, hc139_158, hc146_161, hc152_162, hc159_163])
                        · show Go p e below s n0 _ _ _ (T141.setTop (mkF m 162 #[.val (.int f), .val (.int m'), .val (.long l0), .second, .val (.long l1), .second, .val (.long l2), .second, .val (.long l3), .second, .val (.int fr), .val (.long q0), .second, .val (.long q1), .second, .val (.long q2), .second, .val (.long q3), .second, .val (.ref b136), .val (.int (isz fr q0 q1 q2 q3)), .unset, .unset] []))
                          refine Go.st (fun _ => XS.iconst X141.here C.hx rfl (hb C.hby at_162)) ?_
                          show Go p e below s n0 _ _ _ (T141.setTop (mkF m 163 #[.val (.int f), .val (.int m'), .val (.long l0), .second, .val (.long l1), .second, .val (.long l2), .second, .val (.long l3), .second, .val (.int fr), .val (.long q0), .second, .val (.long q1), .second, .val (.long q2), .second, .val (.long q3), .second, .val (.ref b136), .val (.int (isz fr q0 q1 q2 q3)), .unset, .unset] [(.int (1 : Int32))]))
                          refine Go.st (fun _ => XS.goto X141.here C.hx rfl (pc0 := 163) (pc' := 167) rfl (hb C.hby at_163) (by decide) (by decide)) ?_
                          show Go p e below s n0 _ _ _ (T141.setTop (mkF m 167 #[.val (.int f), .val (.int m'), .val (.long l0), .second, .val (.long l1), .second, .val (.long l2), .second, .val (.long l3), .second, .val (.int fr), .val (.long q0), .second, .val (.long q1), .second, .val (.long q2), .second, .val (.long q3), .second, .val (.ref b136), .val (.int (isz fr q0 q1 q2 q3)), .unset, .unset] [(.int (1 : Int32))]))
                          exact J142 T141 (1 : Int32) X141 (by simp [isz, hc113_149, hc126_150, hc133_157, hc139_158, hc146_161, hc152_162, hc159_163])
            · show Go p e below s n0 _ _ _ (T141.setTop (mkF m 116 #[.val (.int f), .val (.int m'), .val (.long l0), .second, .val (.long l1), .second, .val (.long l2), .second, .val (.long l3), .second, .val (.int fr), .val (.long q0), .second, .val (.long q1), .second, .val (.long q2), .second, .val (.long q3), .second, .val (.ref b136), .val (.int (isz fr q0 q1 q2 q3)), .unset, .unset] []))
              refine Go.st (fun _ => XS.lload X141.here C.hx rfl (hb C.hby at_116) rfl) ?_
              show Go p e below s n0 _ _ _ (T141.setTop (mkF m 118 #[.val (.int f), .val (.int m'), .val (.long l0), .second, .val (.long l1), .second, .val (.long l2), .second, .val (.long l3), .second, .val (.int fr), .val (.long q0), .second, .val (.long q1), .second, .val (.long q2), .second, .val (.long q3), .second, .val (.ref b136), .val (.int (isz fr q0 q1 q2 q3)), .unset, .unset] [(.long q0)]))
              refine Go.st (fun _ => XS.lconst X141.here C.hx rfl (hb C.hby at_118)) ?_
              show Go p e below s n0 _ _ _ (T141.setTop (mkF m 119 #[.val (.int f), .val (.int m'), .val (.long l0), .second, .val (.long l1), .second, .val (.long l2), .second, .val (.long l3), .second, .val (.int fr), .val (.long q0), .second, .val (.long q1), .second, .val (.long q2), .second, .val (.long q3), .second, .val (.ref b136), .val (.int (isz fr q0 q1 q2 q3)), .unset, .unset] [(.long (0 : Int64)), (.long q0)]))
              refine Go.st (fun _ => XS.lcmp X141.here C.hx rfl (hb C.hby at_119) rfl) ?_
              show Go p e below s n0 _ _ _ (T141.setTop (mkF m 120 #[.val (.int f), .val (.int m'), .val (.long l0), .second, .val (.long l1), .second, .val (.long l2), .second, .val (.long l3), .second, .val (.int fr), .val (.long q0), .second, .val (.long q1), .second, .val (.long q2), .second, .val (.long q3), .second, .val (.ref b136), .val (.int (isz fr q0 q1 q2 q3)), .unset, .unset] [(.int (lcmpW q0 (0 : Int64)))]))
              refine Go.lif_ne C X141 (pc' := 166) at_120 (by decide) (by decide) (fun hc120_164 => ?_) (fun hc120_164 => ?_)
              · show Go p e below s n0 _ _ _ (T141.setTop (mkF m 166 #[.val (.int f), .val (.int m'), .val (.long l0), .second, .val (.long l1), .second, .val (.long l2), .second, .val (.long l3), .second, .val (.int fr), .val (.long q0), .second, .val (.long q1), .second, .val (.long q2), .second, .val (.long q3), .second, .val (.ref b136), .val (.int (isz fr q0 q1 q2 q3)), .unset, .unset] []))
                refine Go.st (fun _ => XS.iconst X141.here C.hx rfl (hb C.hby at_166)) ?_
                show Go p e below s n0 _ _ _ (T141.setTop (mkF m 167 #[.val (.int f), .val (.int m'), .val (.long l0), .second, .val (.long l1), .second, .val (.long l2), .second, .val (.long l3), .second, .val (.int fr), .val (.long q0), .second, .val (.long q1), .second, .val (.long q2), .second, .val (.long q3), .second, .val (.ref b136), .val (.int (isz fr q0 q1 q2 q3)), .unset, .unset] [(.int (0 : Int32))]))
                exact J142 T141 (0 : Int32) X141 (by simp [isz, hc113_149, hc120_164])
              · show Go p e below s n0 _ _ _ (T141.setTop (mkF m 123 #[.val (.int f), .val (.int m'), .val (.long l0), .second, .val (.long l1), .second, .val (.long l2), .second, .val (.long l3), .second, .val (.int fr), .val (.long q0), .second, .val (.long q1), .second, .val (.long q2), .second, .val (.long q3), .second, .val (.ref b136), .val (.int (isz fr q0 q1 q2 q3)), .unset, .unset] []))
                refine Go.st (fun _ => XS.iload X141.here C.hx rfl (hb C.hby at_123) rfl) ?_
                show Go p e below s n0 _ _ _ (T141.setTop (mkF m 125 #[.val (.int f), .val (.int m'), .val (.long l0), .second, .val (.long l1), .second, .val (.long l2), .second, .val (.long l3), .second, .val (.int fr), .val (.long q0), .second, .val (.long q1), .second, .val (.long q2), .second, .val (.long q3), .second, .val (.ref b136), .val (.int (isz fr q0 q1 q2 q3)), .unset, .unset] [(.int fr)]))
                refine Go.st (fun _ => XS.iconst X141.here C.hx rfl (hb C.hby at_125)) ?_
                show Go p e below s n0 _ _ _ (T141.setTop (mkF m 126 #[.val (.int f), .val (.int m'), .val (.long l0), .second, .val (.long l1), .second, .val (.long l2), .second, .val (.long l3), .second, .val (.int fr), .val (.long q0), .second, .val (.long q1), .second, .val (.long q2), .second, .val (.long q3), .second, .val (.ref b136), .val (.int (isz fr q0 q1 q2 q3)), .unset, .unset] [(.int (1 : Int32)), (.int fr)]))
                refine Go.icmp_gt C X141 (pc' := 136) at_126 (by decide) (by decide) (fun hc126_165 => ?_) (fun hc126_165 => ?_)
                · show Go p e below s n0 _ _ _ (T141.setTop (mkF m 136 #[.val (.int f), .val (.int m'), .val (.long l0), .second, .val (.long l1), .second, .val (.long l2), .second, .val (.long l3), .second, .val (.int fr), .val (.long q0), .second, .val (.long q1), .second, .val (.long q2), .second, .val (.long q3), .second, .val (.ref b136), .val (.int (isz fr q0 q1 q2 q3)), .unset, .unset] []))
                  refine Go.st (fun _ => XS.iload X141.here C.hx rfl (hb C.hby at_136) rfl) ?_
                  show Go p e below s n0 _ _ _ (T141.setTop (mkF m 138 #[.val (.int f), .val (.int m'), .val (.long l0), .second, .val (.long l1), .second, .val (.long l2), .second, .val (.long l3), .second, .val (.int fr), .val (.long q0), .second, .val (.long q1), .second, .val (.long q2), .second, .val (.long q3), .second, .val (.ref b136), .val (.int (isz fr q0 q1 q2 q3)), .unset, .unset] [(.int fr)]))
                  refine Go.st (fun _ => XS.iconst X141.here C.hx rfl (hb C.hby at_138)) ?_
                  show Go p e below s n0 _ _ _ (T141.setTop (mkF m 139 #[.val (.int f), .val (.int m'), .val (.long l0), .second, .val (.long l1), .second, .val (.long l2), .second, .val (.long l3), .second, .val (.int fr), .val (.long q0), .second, .val (.long q1), .second, .val (.long q2), .second, .val (.long q3), .second, .val (.ref b136), .val (.int (isz fr q0 q1 q2 q3)), .unset, .unset] [(.int (2 : Int32)), (.int fr)]))
                  refine Go.icmp_gt C X141 (pc' := 149) at_139 (by decide) (by decide) (fun hc139_166 => ?_) (fun hc139_166 => ?_)
                  · show Go p e below s n0 _ _ _ (T141.setTop (mkF m 149 #[.val (.int f), .val (.int m'), .val (.long l0), .second, .val (.long l1), .second, .val (.long l2), .second, .val (.long l3), .second, .val (.int fr), .val (.long q0), .second, .val (.long q1), .second, .val (.long q2), .second, .val (.long q3), .second, .val (.ref b136), .val (.int (isz fr q0 q1 q2 q3)), .unset, .unset] []))
                    refine Go.st (fun _ => XS.iload X141.here C.hx rfl (hb C.hby at_149) rfl) ?_
                    show Go p e below s n0 _ _ _ (T141.setTop (mkF m 151 #[.val (.int f), .val (.int m'), .val (.long l0), .second, .val (.long l1), .second, .val (.long l2), .second, .val (.long l3), .second, .val (.int fr), .val (.long q0), .second, .val (.long q1), .second, .val (.long q2), .second, .val (.long q3), .second, .val (.ref b136), .val (.int (isz fr q0 q1 q2 q3)), .unset, .unset] [(.int fr)]))
                    refine Go.st (fun _ => XS.iconst X141.here C.hx rfl (hb C.hby at_151)) ?_
                    show Go p e below s n0 _ _ _ (T141.setTop (mkF m 152 #[.val (.int f), .val (.int m'), .val (.long l0), .second, .val (.long l1), .second, .val (.long l2), .second, .val (.long l3), .second, .val (.int fr), .val (.long q0), .second, .val (.long q1), .second, .val (.long q2), .second, .val (.long q3), .second, .val (.ref b136), .val (.int (isz fr q0 q1 q2 q3)), .unset, .unset] [(.int (3 : Int32)), (.int fr)]))
                    refine Go.icmp_gt C X141 (pc' := 162) at_152 (by decide) (by decide) (fun hc152_167 => ?_) (fun hc152_167 => ?_)
                    · show Go p e below s n0 _ _ _ (T141.setTop (mkF m 162 #[.val (.int f), .val (.int m'), .val (.long l0), .second, .val (.long l1), .second, .val (.long l2), .second, .val (.long l3), .second, .val (.int fr), .val (.long q0), .second, .val (.long q1), .second, .val (.long q2), .second, .val (.long q3), .second, .val (.ref b136), .val (.int (isz fr q0 q1 q2 q3)), .unset, .unset] []))
                      refine Go.st (fun _ => XS.iconst X141.here C.hx rfl (hb C.hby at_162)) ?_
                      show Go p e below s n0 _ _ _ (T141.setTop (mkF m 163 #[.val (.int f), .val (.int m'), .val (.long l0), .second, .val (.long l1), .second, .val (.long l2), .second, .val (.long l3), .second, .val (.int fr), .val (.long q0), .second, .val (.long q1), .second, .val (.long q2), .second, .val (.long q3), .second, .val (.ref b136), .val (.int (isz fr q0 q1 q2 q3)), .unset, .unset] [(.int (1 : Int32))]))
                      refine Go.st (fun _ => XS.goto X141.here C.hx rfl (pc0 := 163) (pc' := 167) rfl (hb C.hby at_163) (by decide) (by decide)) ?_
                      show Go p e below s n0 _ _ _ (T141.setTop (mkF m 167 #[.val (.int f), .val (.int m'), .val (.long l0), .second, .val (.long l1), .second, .val (.long l2), .second, .val (.long l3), .second, .val (.int fr), .val (.long q0), .second, .val (.long q1), .second, .val (.long q2), .second, .val (.long q3), .second, .val (.ref b136), .val (.int (isz fr q0 q1 q2 q3)), .unset, .unset] [(.int (1 : Int32))]))
                      exact J142 T141 (1 : Int32) X141 (by simp [isz, hc113_149, hc120_164, hc126_165, hc139_166, hc152_167])
                    · show Go p e below s n0 _ _ _ (T141.setTop (mkF m 155 #[.val (.int f), .val (.int m'), .val (.long l0), .second, .val (.long l1), .second, .val (.long l2), .second, .val (.long l3), .second, .val (.int fr), .val (.long q0), .second, .val (.long q1), .second, .val (.long q2), .second, .val (.long q3), .second, .val (.ref b136), .val (.int (isz fr q0 q1 q2 q3)), .unset, .unset] []))
                      refine Go.st (fun _ => XS.lload X141.here C.hx rfl (hb C.hby at_155) rfl) ?_
                      show Go p e below s n0 _ _ _ (T141.setTop (mkF m 157 #[.val (.int f), .val (.int m'), .val (.long l0), .second, .val (.long l1), .second, .val (.long l2), .second, .val (.long l3), .second, .val (.int fr), .val (.long q0), .second, .val (.long q1), .second, .val (.long q2), .second, .val (.long q3), .second, .val (.ref b136), .val (.int (isz fr q0 q1 q2 q3)), .unset, .unset] [(.long q3)]))
                      refine Go.st (fun _ => XS.lconst X141.here C.hx rfl (hb C.hby at_157)) ?_
                      show Go p e below s n0 _ _ _ (T141.setTop (mkF m 158 #[.val (.int f), .val (.int m'), .val (.long l0), .second, .val (.long l1), .second, .val (.long l2), .second, .val (.long l3), .second, .val (.int fr), .val (.long q0), .second, .val (.long q1), .second, .val (.long q2), .second, .val (.long q3), .second, .val (.ref b136), .val (.int (isz fr q0 q1 q2 q3)), .unset, .unset] [(.long (0 : Int64)), (.long q3)]))
                      refine Go.st (fun _ => XS.lcmp X141.here C.hx rfl (hb C.hby at_158) rfl) ?_
                      show Go p e below s n0 _ _ _ (T141.setTop (mkF m 159 #[.val (.int f), .val (.int m'), .val (.long l0), .second, .val (.long l1), .second, .val (.long l2), .second, .val (.long l3), .second, .val (.int fr), .val (.long q0), .second, .val (.long q1), .second, .val (.long q2), .second, .val (.long q3), .second, .val (.ref b136), .val (.int (isz fr q0 q1 q2 q3)), .unset, .unset] [(.int (lcmpW q3 (0 : Int64)))]))
                      refine Go.lif_ne C X141 (pc' := 166) at_159 (by decide) (by decide) (fun hc159_168 => ?_) (fun hc159_168 => ?_)
                      · show Go p e below s n0 _ _ _ (T141.setTop (mkF m 166 #[.val (.int f), .val (.int m'), .val (.long l0), .second, .val (.long l1), .second, .val (.long l2), .second, .val (.long l3), .second, .val (.int fr), .val (.long q0), .second, .val (.long q1), .second, .val (.long q2), .second, .val (.long q3), .second, .val (.ref b136), .val (.int (isz fr q0 q1 q2 q3)), .unset, .unset] []))
                        refine Go.st (fun _ => XS.iconst X141.here C.hx rfl (hb C.hby at_166)) ?_
                        show Go p e below s n0 _ _ _ (T141.setTop (mkF m 167 #[.val (.int f), .val (.int m'), .val (.long l0), .second, .val (.long l1), .second, .val (.long l2), .second, .val (.long l3), .second, .val (.int fr), .val (.long q0), .second, .val (.long q1), .second, .val (.long q2), .second, .val (.long q3), .second, .val (.ref b136), .val (.int (isz fr q0 q1 q2 q3)), .unset, .unset] [(.int (0 : Int32))]))
                        exact J142 T141 (0 : Int32) X141 (by simp [isz, hc113_149, hc120_164, hc126_165, hc139_166, hc152_167, hc159_168])
                      · show Go p e below s n0 _ _ _ (T141.setTop (mkF m 162 #[.val (.int f), .val (.int m'), .val (.long l0), .second, .val (.long l1), .second, .val (.long l2), .second, .val (.long l3), .second, .val (.int fr), .val (.long q0), .second, .val (.long q1), .second, .val (.long q2), .second, .val (.long q3), .second, .val (.ref b136), .val (.int (isz fr q0 q1 q2 q3)), .unset, .unset] []))
                        refine Go.st (fun _ => XS.iconst X141.here C.hx rfl (hb C.hby at_162)) ?_
                        show Go p e below s n0 _ _ _ (T141.setTop (mkF m 163 #[.val (.int f), .val (.int m'), .val (.long l0), .second, .val (.long l1), .second, .val (.long l2), .second, .val (.long l3), .second, .val (.int fr), .val (.long q0), .second, .val (.long q1), .second, .val (.long q2), .second, .val (.long q3), .second, .val (.ref b136), .val (.int (isz fr q0 q1 q2 q3)), .unset, .unset] [(.int (1 : Int32))]))
                        refine Go.st (fun _ => XS.goto X141.here C.hx rfl (pc0 := 163) (pc' := 167) rfl (hb C.hby at_163) (by decide) (by decide)) ?_
                        show Go p e below s n0 _ _ _ (T141.setTop (mkF m 167 #[.val (.int f), .val (.int m'), .val (.long l0), .second, .val (.long l1), .second, .val (.long l2), .second, .val (.long l3), .second, .val (.int fr), .val (.long q0), .second, .val (.long q1), .second, .val (.long q2), .second, .val (.long q3), .second, .val (.ref b136), .val (.int (isz fr q0 q1 q2 q3)), .unset, .unset] [(.int (1 : Int32))]))
                        exact J142 T141 (1 : Int32) X141 (by simp [isz, hc113_149, hc120_164, hc126_165, hc139_166, hc152_167, hc159_168])
                  · show Go p e below s n0 _ _ _ (T141.setTop (mkF m 142 #[.val (.int f), .val (.int m'), .val (.long l0), .second, .val (.long l1), .second, .val (.long l2), .second, .val (.long l3), .second, .val (.int fr), .val (.long q0), .second, .val (.long q1), .second, .val (.long q2), .second, .val (.long q3), .second, .val (.ref b136), .val (.int (isz fr q0 q1 q2 q3)), .unset, .unset] []))
                    refine Go.st (fun _ => XS.lload X141.here C.hx rfl (hb C.hby at_142) rfl) ?_
                    show Go p e below s n0 _ _ _ (T141.setTop (mkF m 144 #[.val (.int f), .val (.int m'), .val (.long l0), .second, .val (.long l1), .second, .val (.long l2), .second, .val (.long l3), .second, .val (.int fr), .val (.long q0), .second, .val (.long q1), .second, .val (.long q2), .second, .val (.long q3), .second, .val (.ref b136), .val (.int (isz fr q0 q1 q2 q3)), .unset, .unset] [(.long q2)]))
                    refine Go.st (fun _ => XS.lconst X141.here C.hx rfl (hb C.hby at_144)) ?_
                    show Go p e below s n0 _ _ _ (T141.setTop (mkF m 145 #[.val (.int f), .val (.int m'), .val (.long l0), .second, .val (.long l1), .second, .val (.long l2), .second, .val (.long l3), .second, .val (.int fr), .val (.long q0), .second, .val (.long q1), .second, .val (.long q2), .second, .val (.long q3), .second, .val (.ref b136), .val (.int (isz fr q0 q1 q2 q3)), .unset, .unset] [(.long (0 : Int64)), (.long q2)]))
                    refine Go.st (fun _ => XS.lcmp X141.here C.hx rfl (hb C.hby at_145) rfl) ?_
                    show Go p e below s n0 _ _ _ (T141.setTop (mkF m 146 #[.val (.int f), .val (.int m'), .val (.long l0), .second, .val (.long l1), .second, .val (.long l2), .second, .val (.long l3), .second, .val (.int fr), .val (.long q0), .second, .val (.long q1), .second, .val (.long q2), .second, .val (.long q3), .second, .val (.ref b136), .val (.int (isz fr q0 q1 q2 q3)), .unset, .unset] [(.int (lcmpW q2 (0 : Int64)))]))
                    refine Go.lif_ne C X141 (pc' := 166) at_146 (by decide) (by decide) (fun hc146_169 => ?_) (fun hc146_169 => ?_)
                    · show Go p e below s n0 _ _ _ (T141.setTop (mkF m 166 #[.val (.int f), .val (.int m'), .val (.long l0), .second, .val (.long l1), .second, .val (.long l2), .second, .val (.long l3), .second, .val (.int fr), .val (.long q0), .second, .val (.long q1), .second, .val (.long q2), .second, .val (.long q3), .second, .val (.ref b136), .val (.int (isz fr q0 q1 q2 q3)), .unset, .unset] []))
                      refine Go.st (fun _ => XS.iconst X141.here C.hx rfl (hb C.hby at_166)) ?_
                      show Go p e below s n0 _ _ _ (T141.setTop (mkF m 167 #[.val (.int f), .val (.int m'), .val (.long l0), .second, .val (.long l1), .second, .val (.long l2), .second, .val (.long l3), .second, .val (.int fr), .val (.long q0), .second, .val (.long q1), .second, .val (.long q2), .second, .val (.long q3), .second, .val (.ref b136), .val (.int (isz fr q0 q1 q2 q3)), .unset, .unset] [(.int (0 : Int32))]))
                      exact J142 T141 (0 : Int32) X141 (by simp [isz, hc113_149, hc120_164, hc126_165, hc139_166, hc146_169])
                    · show Go p e below s n0 _ _ _ (T141.setTop (mkF m 149 #[.val (.int f), .val (.int m'), .val (.long l0), .second, .val (.long l1), .second, .val (.long l2), .second, .val (.long l3), .second, .val (.int fr), .val (.long q0), .second, .val (.long q1), .second, .val (.long q2), .second, .val (.long q3), .second, .val (.ref b136), .val (.int (isz fr q0 q1 q2 q3)), .unset, .unset] []))
                      refine Go.st (fun _ => XS.iload X141.here C.hx rfl (hb C.hby at_149) rfl) ?_
                      show Go p e below s n0 _ _ _ (T141.setTop (mkF m 151 #[.val (.int f), .val (.int m'), .val (.long l0), .second, .val (.long l1), .second, .val (.long l2), .second, .val (.long l3), .second, .val (.int fr), .val (.long q0), .second, .val (.long q1), .second, .val (.long q2), .second, .val (.long q3), .second, .val (.ref b136), .val (.int (isz fr q0 q1 q2 q3)), .unset, .unset] [(.int fr)]))
                      refine Go.st (fun _ => XS.iconst X141.here C.hx rfl (hb C.hby at_151)) ?_
                      show Go p e below s n0 _ _ _ (T141.setTop (mkF m 152 #[.val (.int f), .val (.int m'), .val (.long l0), .second, .val (.long l1), .second, .val (.long l2), .second, .val (.long l3), .second, .val (.int fr), .val (.long q0), .second, .val (.long q1), .second, .val (.long q2), .second, .val (.long q3), .second, .val (.ref b136), .val (.int (isz fr q0 q1 q2 q3)), .unset, .unset] [(.int (3 : Int32)), (.int fr)]))
                      refine Go.icmp_gt C X141 (pc' := 162) at_152 (by decide) (by decide) (fun hc152_170 => ?_) (fun hc152_170 => ?_)
                      · show Go p e below s n0 _ _ _ (T141.setTop (mkF m 162 #[.val (.int f), .val (.int m'), .val (.long l0), .second, .val (.long l1), .second, .val (.long l2), .second, .val (.long l3), .second, .val (.int fr), .val (.long q0), .second, .val (.long q1), .second, .val (.long q2), .second, .val (.long q3), .second, .val (.ref b136), .val (.int (isz fr q0 q1 q2 q3)), .unset, .unset] []))
                        refine Go.st (fun _ => XS.iconst X141.here C.hx rfl (hb C.hby at_162)) ?_
                        show Go p e below s n0 _ _ _ (T141.setTop (mkF m 163 #[.val (.int f), .val (.int m'), .val (.long l0), .second, .val (.long l1), .second, .val (.long l2), .second, .val (.long l3), .second, .val (.int fr), .val (.long q0), .second, .val (.long q1), .second, .val (.long q2), .second, .val (.long q3), .second, .val (.ref b136), .val (.int (isz fr q0 q1 q2 q3)), .unset, .unset] [(.int (1 : Int32))]))
                        refine Go.st (fun _ => XS.goto X141.here C.hx rfl (pc0 := 163) (pc' := 167) rfl (hb C.hby at_163) (by decide) (by decide)) ?_
                        show Go p e below s n0 _ _ _ (T141.setTop (mkF m 167 #[.val (.int f), .val (.int m'), .val (.long l0), .second, .val (.long l1), .second, .val (.long l2), .second, .val (.long l3), .second, .val (.int fr), .val (.long q0), .second, .val (.long q1), .second, .val (.long q2), .second, .val (.long q3), .second, .val (.ref b136), .val (.int (isz fr q0 q1 q2 q3)), .unset, .unset] [(.int (1 : Int32))]))
                        exact J142 T141 (1 : Int32) X141 (by simp [isz, hc113_149, hc120_164, hc126_165, hc139_166, hc146_169, hc152_170])
                      · show Go p e below s n0 _ _ _ (T141.setTop (mkF m 155 #[.val (.int f), .val (.int m'), .val (.long l0), .second, .val (.long l1), .second, .val (.long l2), .second, .val (.long l3), .second, .val (.int fr), .val (.long q0), .second, .val (.long q1), .second, .val (.long q2), .second, .val (.long q3), .second, .val (.ref b136), .val (.int (isz fr q0 q1 q2 q3)), .unset, .unset] []))
                        refine Go.st (fun _ => XS.lload X141.here C.hx rfl (hb C.hby at_155) rfl) ?_
                        show Go p e below s n0 _ _ _ (T141.setTop (mkF m 157 #[.val (.int f), .val (.int m'), .val (.long l0), .second, .val (.long l1), .second, .val (.long l2), .second, .val (.long l3), .second, .val (.int fr), .val (.long q0), .second, .val (.long q1), .second, .val (.long q2), .second, .val (.long q3), .second, .val (.ref b136), .val (.int (isz fr q0 q1 q2 q3)), .unset, .unset] [(.long q3)]))
                        refine Go.st (fun _ => XS.lconst X141.here C.hx rfl (hb C.hby at_157)) ?_
                        show Go p e below s n0 _ _ _ (T141.setTop (mkF m 158 #[.val (.int f), .val (.int m'), .val (.long l0), .second, .val (.long l1), .second, .val (.long l2), .second, .val (.long l3), .second, .val (.int fr), .val (.long q0), .second, .val (.long q1), .second, .val (.long q2), .second, .val (.long q3), .second, .val (.ref b136), .val (.int (isz fr q0 q1 q2 q3)), .unset, .unset] [(.long (0 : Int64)), (.long q3)]))
                        refine Go.st (fun _ => XS.lcmp X141.here C.hx rfl (hb C.hby at_158) rfl) ?_
                        show Go p e below s n0 _ _ _ (T141.setTop (mkF m 159 #[.val (.int f), .val (.int m'), .val (.long l0), .second, .val (.long l1), .second, .val (.long l2), .second, .val (.long l3), .second, .val (.int fr), .val (.long q0), .second, .val (.long q1), .second, .val (.long q2), .second, .val (.long q3), .second, .val (.ref b136), .val (.int (isz fr q0 q1 q2 q3)), .unset, .unset] [(.int (lcmpW q3 (0 : Int64)))]))
                        refine Go.lif_ne C X141 (pc' := 166) at_159 (by decide) (by decide) (fun hc159_171 => ?_) (fun hc159_171 => ?_)
                        · show Go p e below s n0 _ _ _ (T141.setTop (mkF m 166 #[.val (.int f), .val (.int m'), .val (.long l0), .second, .val (.long l1), .second, .val (.long l2), .second, .val (.long l3), .second, .val (.int fr), .val (.long q0), .second, .val (.long q1), .second, .val (.long q2), .second, .val (.long q3), .second, .val (.ref b136), .val (.int (isz fr q0 q1 q2 q3)), .unset, .unset] []))
                          refine Go.st (fun _ => XS.iconst X141.here C.hx rfl (hb C.hby at_166)) ?_
                          show Go p e below s n0 _ _ _ (T141.setTop (mkF m 167 #[.val (.int f), .val (.int m'), .val (.long l0), .second, .val (.long l1), .second, .val (.long l2), .second, .val (.long l3), .second, .val (.int fr), .val (.long q0), .second, .val (.long q1), .second, .val (.long q2), .second, .val (.long q3), .second, .val (.ref b136), .val (.int (isz fr q0 q1 q2 q3)), .unset, .unset] [(.int (0 : Int32))]))
                          exact J142 T141 (0 : Int32) X141 (by simp [isz, hc113_149, hc120_164, hc126_165, hc139_166, hc146_169, hc152_170, hc159_171])
                        · show Go p e below s n0 _ _ _ (T141.setTop (mkF m 162 #[.val (.int f), .val (.int m'), .val (.long l0), .second, .val (.long l1), .second, .val (.long l2), .second, .val (.long l3), .second, .val (.int fr), .val (.long q0), .second, .val (.long q1), .second, .val (.long q2), .second, .val (.long q3), .second, .val (.ref b136), .val (.int (isz fr q0 q1 q2 q3)), .unset, .unset] []))
                          refine Go.st (fun _ => XS.iconst X141.here C.hx rfl (hb C.hby at_162)) ?_
                          show Go p e below s n0 _ _ _ (T141.setTop (mkF m 163 #[.val (.int f), .val (.int m'), .val (.long l0), .second, .val (.long l1), .second, .val (.long l2), .second, .val (.long l3), .second, .val (.int fr), .val (.long q0), .second, .val (.long q1), .second, .val (.long q2), .second, .val (.long q3), .second, .val (.ref b136), .val (.int (isz fr q0 q1 q2 q3)), .unset, .unset] [(.int (1 : Int32))]))
                          refine Go.st (fun _ => XS.goto X141.here C.hx rfl (pc0 := 163) (pc' := 167) rfl (hb C.hby at_163) (by decide) (by decide)) ?_
                          show Go p e below s n0 _ _ _ (T141.setTop (mkF m 167 #[.val (.int f), .val (.int m'), .val (.long l0), .second, .val (.long l1), .second, .val (.long l2), .second, .val (.long l3), .second, .val (.int fr), .val (.long q0), .second, .val (.long q1), .second, .val (.long q2), .second, .val (.long q3), .second, .val (.ref b136), .val (.int (isz fr q0 q1 q2 q3)), .unset, .unset] [(.int (1 : Int32))]))
                          exact J142 T141 (1 : Int32) X141 (by simp [isz, hc113_149, hc120_164, hc126_165, hc139_166, hc146_169, hc152_170, hc159_171])
                · show Go p e below s n0 _ _ _ (T141.setTop (mkF m 129 #[.val (.int f), .val (.int m'), .val (.long l0), .second, .val (.long l1), .second, .val (.long l2), .second, .val (.long l3), .second, .val (.int fr), .val (.long q0), .second, .val (.long q1), .second, .val (.long q2), .second, .val (.long q3), .second, .val (.ref b136), .val (.int (isz fr q0 q1 q2 q3)), .unset, .unset] []))
                  refine Go.st (fun _ => XS.lload X141.here C.hx rfl (hb C.hby at_129) rfl) ?_
                  show Go p e below s n0 _ _ _ (T141.setTop (mkF m 131 #[.val (.int f), .val (.int m'), .val (.long l0), .second, .val (.long l1), .second, .val (.long l2), .second, .val (.long l3), .second, .val (.int fr), .val (.long q0), .second, .val (.long q1), .second, .val (.long q2), .second, .val (.long q3), .second, .val (.ref b136), .val (.int (isz fr q0 q1 q2 q3)), .unset, .unset] [(.long q1)]))
                  refine Go.st (fun _ => XS.lconst X141.here C.hx rfl (hb C.hby at_131)) ?_
                  show Go p e below s n0 _ _ _ (T141.setTop (mkF m 132 #[.val (.int f), .val (.int m'), .val (.long l0), .second, .val (.long l1), .second, .val (.long l2), .second, .val (.long l3), .second, .val (.int fr), .val (.long q0), .second, .val (.long q1), .second, .val (.long q2), .second, .val (.long q3), .second, .val (.ref b136), .val (.int (isz fr q0 q1 q2 q3)), .unset, .unset] [(.long (0 : Int64)), (.long q1)]))
                  refine Go.st (fun _ => XS.lcmp X141.here C.hx rfl (hb C.hby at_132) rfl) ?_
                  show Go p e below s n0 _ _ _ (T141.setTop (mkF m 133 #[.val (.int f), .val (.int m'), .val (.long l0), .second, .val (.long l1), .second, .val (.long l2), .second, .val (.long l3), .second, .val (.int fr), .val (.long q0), .second, .val (.long q1), .second, .val (.long q2), .second, .val (.long q3), .second, .val (.ref b136), .val (.int (isz fr q0 q1 q2 q3)), .unset, .unset] [(.int (lcmpW q1 (0 : Int64)))]))
                  refine Go.lif_ne C X141 (pc' := 166) at_133 (by decide) (by decide) (fun hc133_172 => ?_) (fun hc133_172 => ?_)
                  · show Go p e below s n0 _ _ _ (T141.setTop (mkF m 166 #[.val (.int f), .val (.int m'), .val (.long l0), .second, .val (.long l1), .second, .val (.long l2), .second, .val (.long l3), .second, .val (.int fr), .val (.long q0), .second, .val (.long q1), .second, .val (.long q2), .second, .val (.long q3), .second, .val (.ref b136), .val (.int (isz fr q0 q1 q2 q3)), .unset, .unset] []))
                    refine Go.st (fun _ => XS.iconst X141.here C.hx rfl (hb C.hby at_166)) ?_
                    show Go p e below s n0 _ _ _ (T141.setTop (mkF m 167 #[.val (.int f), .val (.int m'), .val (.long l0), .second, .val (.long l1), .second, .val (.long l2), .second, .val (.long l3), .second, .val (.int fr), .val (.long q0), .second, .val (.long q1), .second, .val (.long q2), .second, .val (.long q3), .second, .val (.ref b136), .val (.int (isz fr q0 q1 q2 q3)), .unset, .unset] [(.int (0 : Int32))]))
                    exact J142 T141 (0 : Int32) X141 (by simp [isz, hc113_149, hc120_164, hc126_165, hc133_172])
                  · show Go p e below s n0 _ _ _ (T141.setTop (mkF m 136 #[.val (.int f), .val (.int m'), .val (.long l0), .second, .val (.long l1), .second, .val (.long l2), .second, .val (.long l3), .second, .val (.int fr), .val (.long q0), .second, .val (.long q1), .second, .val (.long q2), .second, .val (.long q3), .second, .val (.ref b136), .val (.int (isz fr q0 q1 q2 q3)), .unset, .unset] []))
                    refine Go.st (fun _ => XS.iload X141.here C.hx rfl (hb C.hby at_136) rfl) ?_
                    show Go p e below s n0 _ _ _ (T141.setTop (mkF m 138 #[.val (.int f), .val (.int m'), .val (.long l0), .second, .val (.long l1), .second, .val (.long l2), .second, .val (.long l3), .second, .val (.int fr), .val (.long q0), .second, .val (.long q1), .second, .val (.long q2), .second, .val (.long q3), .second, .val (.ref b136), .val (.int (isz fr q0 q1 q2 q3)), .unset, .unset] [(.int fr)]))
                    refine Go.st (fun _ => XS.iconst X141.here C.hx rfl (hb C.hby at_138)) ?_
                    show Go p e below s n0 _ _ _ (T141.setTop (mkF m 139 #[.val (.int f), .val (.int m'), .val (.long l0), .second, .val (.long l1), .second, .val (.long l2), .second, .val (.long l3), .second, .val (.int fr), .val (.long q0), .second, .val (.long q1), .second, .val (.long q2), .second, .val (.long q3), .second, .val (.ref b136), .val (.int (isz fr q0 q1 q2 q3)), .unset, .unset] [(.int (2 : Int32)), (.int fr)]))
                    refine Go.icmp_gt C X141 (pc' := 149) at_139 (by decide) (by decide) (fun hc139_173 => ?_) (fun hc139_173 => ?_)
                    · show Go p e below s n0 _ _ _ (T141.setTop (mkF m 149 #[.val (.int f), .val (.int m'), .val (.long l0), .second, .val (.long l1), .second, .val (.long l2), .second, .val (.long l3), .second, .val (.int fr), .val (.long q0), .second, .val (.long q1), .second, .val (.long q2), .second, .val (.long q3), .second, .val (.ref b136), .val (.int (isz fr q0 q1 q2 q3)), .unset, .unset] []))
                      refine Go.st (fun _ => XS.iload X141.here C.hx rfl (hb C.hby at_149) rfl) ?_
                      show Go p e below s n0 _ _ _ (T141.setTop (mkF m 151 #[.val (.int f), .val (.int m'), .val (.long l0), .second, .val (.long l1), .second, .val (.long l2), .second, .val (.long l3), .second, .val (.int fr), .val (.long q0), .second, .val (.long q1), .second, .val (.long q2), .second, .val (.long q3), .second, .val (.ref b136), .val (.int (isz fr q0 q1 q2 q3)), .unset, .unset] [(.int fr)]))
                      refine Go.st (fun _ => XS.iconst X141.here C.hx rfl (hb C.hby at_151)) ?_
                      show Go p e below s n0 _ _ _ (T141.setTop (mkF m 152 #[.val (.int f), .val (.int m'), .val (.long l0), .second, .val (.long l1), .second, .val (.long l2), .second, .val (.long l3), .second, .val (.int fr), .val (.long q0), .second, .val (.long q1), .second, .val (.long q2), .second, .val (.long q3), .second, .val (.ref b136), .val (.int (isz fr q0 q1 q2 q3)), .unset, .unset] [(.int (3 : Int32)), (.int fr)]))
                      refine Go.icmp_gt C X141 (pc' := 162) at_152 (by decide) (by decide) (fun hc152_174 => ?_) (fun hc152_174 => ?_)
                      · show Go p e below s n0 _ _ _ (T141.setTop (mkF m 162 #[.val (.int f), .val (.int m'), .val (.long l0), .second, .val (.long l1), .second, .val (.long l2), .second, .val (.long l3), .second, .val (.int fr), .val (.long q0), .second, .val (.long q1), .second, .val (.long q2), .second, .val (.long q3), .second, .val (.ref b136), .val (.int (isz fr q0 q1 q2 q3)), .unset, .unset] []))
                        refine Go.st (fun _ => XS.iconst X141.here C.hx rfl (hb C.hby at_162)) ?_
                        show Go p e below s n0 _ _ _ (T141.setTop (mkF m 163 #[.val (.int f), .val (.int m'), .val (.long l0), .second, .val (.long l1), .second, .val (.long l2), .second, .val (.long l3), .second, .val (.int fr), .val (.long q0), .second, .val (.long q1), .second, .val (.long q2), .second, .val (.long q3), .second, .val (.ref b136), .val (.int (isz fr q0 q1 q2 q3)), .unset, .unset] [(.int (1 : Int32))]))
                        refine Go.st (fun _ => XS.goto X141.here C.hx rfl (pc0 := 163) (pc' := 167) rfl (hb C.hby at_163) (by decide) (by decide)) ?_
                        show Go p e below s n0 _ _ _ (T141.setTop (mkF m 167 #[.val (.int f), .val (.int m'), .val (.long l0), .second, .val (.long l1), .second, .val (.long l2), .second, .val (.long l3), .second, .val (.int fr), .val (.long q0), .second, .val (.long q1), .second, .val (.long q2), .second, .val (.long q3), .second, .val (.ref b136), .val (.int (isz fr q0 q1 q2 q3)), .unset, .unset] [(.int (1 : Int32))]))
                        exact J142 T141 (1 : Int32) X141 (by simp [isz, hc113_149, hc120_164, hc126_165, hc133_172, hc139_173, hc152_174])
                      · show Go p e below s n0 _ _ _ (T141.setTop (mkF m 155 #[.val (.int f), .val (.int m'), .val (.long l0), .second, .val (.long l1), .second, .val (.long l2), .second, .val (.long l3), .second, .val (.int fr), .val (.long q0), .second, .val (.long q1), .second, .val (.long q2), .second, .val (.long q3), .second, .val (.ref b136), .val (.int (isz fr q0 q1 q2 q3)), .unset, .unset] []))
                        refine Go.st (fun _ => XS.lload X141.here C.hx rfl (hb C.hby at_155) rfl) ?_
                        show Go p e below s n0 _ _ _ (T141.setTop (mkF m 157 #[.val (.int f), .val (.int m'), .val (.long l0), .second, .val (.long l1), .second, .val (.long l2), .second, .val (.long l3), .second, .val (.int fr), .val (.long q0), .second, .val (.long q1), .second, .val (.long q2), .second, .val (.long q3), .second, .val (.ref b136), .val (.int (isz fr q0 q1 q2 q3)), .unset, .unset] [(.long q3)]))
                        refine Go.st (fun _ => XS.lconst X141.here C.hx rfl (hb C.hby at_157)) ?_
                        show Go p e below s n0 _ _ _ (T141.setTop (mkF m 158 #[.val (.int f), .val (.int m'), .val (.long l0), .second, .val (.long l1), .second, .val (.long l2), .second, .val (.long l3), .second, .val (.int fr), .val (.long q0), .second, .val (.long q1), .second, .val (.long q2), .second, .val (.long q3), .second, .val (.ref b136), .val (.int (isz fr q0 q1 q2 q3)), .unset, .unset] [(.long (0 : Int64)), (.long q3)]))
                        refine Go.st (fun _ => XS.lcmp X141.here C.hx rfl (hb C.hby at_158) rfl) ?_
                        show Go p e below s n0 _ _ _ (T141.setTop (mkF m 159 #[.val (.int f), .val (.int m'), .val (.long l0), .second, .val (.long l1), .second, .val (.long l2), .second, .val (.long l3), .second, .val (.int fr), .val (.long q0), .second, .val (.long q1), .second, .val (.long q2), .second, .val (.long q3), .second, .val (.ref b136), .val (.int (isz fr q0 q1 q2 q3)), .unset, .unset] [(.int (lcmpW q3 (0 : Int64)))]))
                        refine Go.lif_ne C X141 (pc' := 166) at_159 (by decide) (by decide) (fun hc159_175 => ?_) (fun hc159_175 => ?_)
                        · show Go p e below s n0 _ _ _ (T141.setTop (mkF m 166 #[.val (.int f), .val (.int m'), .val (.long l0), .second, .val (.long l1), .second, .val (.long l2), .second, .val (.long l3), .second, .val (.int fr), .val (.long q0), .second, .val (.long q1), .second, .val (.long q2), .second, .val (.long q3), .second, .val (.ref b136), .val (.int (isz fr q0 q1 q2 q3)), .unset, .unset] []))
                          refine Go.st (fun _ => XS.iconst X141.here C.hx rfl (hb C.hby at_166)) ?_
                          show Go p e below s n0 _ _ _ (T141.setTop (mkF m 167 #[.val (.int f), .val (.int m'), .val (.long l0), .second, .val (.long l1), .second, .val (.long l2), .second, .val (.long l3), .second, .val (.int fr), .val (.long q0), .second, .val (.long q1), .second, .val (.long q2), .second, .val (.long q3), .second, .val (.ref b136), .val (.int (isz fr q0 q1 q2 q3)), .unset, .unset] [(.int (0 : Int32))]))
                          exact J142 T141 (0 : Int32) X141 (by simp [isz, hc113_149, hc120_164, hc126_165, hc133_172, hc139_173, hc152_174, hc159_175])
                        · show Go p e below s n0 _ _ _ (T141.setTop (mkF m 162 #[.val (.int f), .val (.int m'), .val (.long l0), .second, .val (.long l1), .second, .val (.long l2), .second, .val (.long l3), .second, .val (.int fr), .val (.long q0), .second, .val (.long q1), .second, .val (.long q2), .second, .val (.long q3), .second, .val (.ref b136), .val (.int (isz fr q0 q1 q2 q3)), .unset, .unset] []))
                          refine Go.st (fun _ => XS.iconst X141.here C.hx rfl (hb C.hby at_162)) ?_
                          show Go p e below s n0 _ _ _ (T141.setTop (mkF m 163 #[.val (.int f), .val (.int m'), .val (.long l0), .second, .val (.long l1), .second, .val (.long l2), .second, .val (.long l3), .second, .val (.int fr), .val (.long q0), .second, .val (.long q1), .second, .val (.long q2), .second, .val (.long q3), .second, .val (.ref b136), .val (.int (isz fr q0 q1 q2 q3)), .unset, .unset] [(.int (1 : Int32))]))
                          refine Go.st (fun _ => XS.goto X141.here C.hx rfl (pc0 := 163) (pc' := 167) rfl (hb C.hby at_163) (by decide) (by decide)) ?_
                          show Go p e below s n0 _ _ _ (T141.setTop (mkF m 167 #[.val (.int f), .val (.int m'), .val (.long l0), .second, .val (.long l1), .second, .val (.long l2), .second, .val (.long l3), .second, .val (.int fr), .val (.long q0), .second, .val (.long q1), .second, .val (.long q2), .second, .val (.long q3), .second, .val (.ref b136), .val (.int (isz fr q0 q1 q2 q3)), .unset, .unset] [(.int (1 : Int32))]))
                          exact J142 T141 (1 : Int32) X141 (by simp [isz, hc113_149, hc120_164, hc126_165, hc133_172, hc139_173, hc152_174, hc159_175])
                    · show Go p e below s n0 _ _ _ (T141.setTop (mkF m 142 #[.val (.int f), .val (.int m'), .val (.long l0), .second, .val (.long l1), .second, .val (.long l2), .second, .val (.long l3), .second, .val (.int fr), .val (.long q0), .second, .val (.long q1), .second, .val (.long q2), .second, .val (.long q3), .second, .val (.ref b136), .val (.int (isz fr q0 q1 q2 q3)), .unset, .unset] []))
                      refine Go.st (fun _ => XS.lload X141.here C.hx rfl (hb C.hby at_142) rfl) ?_
                      show Go p e below s n0 _ _ _ (T141.setTop (mkF m 144 #[.val (.int f), .val (.int m'), .val (.long l0), .second, .val (.long l1), .second, .val (.long l2), .second, .val (.long l3), .second, .val (.int fr), .val (.long q0), .second, .val (.long q1), .second, .val (.long q2), .second, .val (.long q3), .second, .val (.ref b136), .val (.int (isz fr q0 q1 q2 q3)), .unset, .unset] [(.long q2)]))
                      refine Go.st (fun _ => XS.lconst X141.here C.hx rfl (hb C.hby at_144)) ?_
                      show Go p e below s n0 _ _ _ (T141.setTop (mkF m 145 #[.val (.int f), .val (.int m'), .val (.long l0), .second, .val (.long l1), .second, .val (.long l2), .second, .val (.long l3), .second, .val (.int fr), .val (.long q0), .second, .val (.long q1), .second, .val (.long q2), .second, .val (.long q3), .second, .val (.ref b136), .val (.int (isz fr q0 q1 q2 q3)), .unset, .unset] [(.long (0 : Int64)), (.long q2)]))
                      refine Go.st (fun _ => XS.lcmp X141.here C.hx rfl (hb C.hby at_145) rfl) ?_
                      show Go p e below s n0 _ _ _ (T141.setTop (mkF m 146 #[.val (.int f), .val (.int m'), .val (.long l0), .second, .val (.long l1), .second, .val (.long l2), .second, .val (.long l3), .second, .val (.int fr), .val (.long q0), .second, .val (.long q1), .second, .val (.long q2), .second, .val (.long q3), .second, .val (.ref b136), .val (.int (isz fr q0 q1 q2 q3)), .unset, .unset] [(.int (lcmpW q2 (0 : Int64)))]))
                      refine Go.lif_ne C X141 (pc' := 166) at_146 (by decide) (by decide) (fun hc146_176 => ?_) (fun hc146_176 => ?_)
                      · show Go p e below s n0 _ _ _ (T141.setTop (mkF m 166 #[.val (.int f), .val (.int m'), .val (.long l0), .second, .val (.long l1), .second, .val (.long l2), .second, .val (.long l3), .second, .val (.int fr), .val (.long q0), .second, .val (.long q1), .second, .val (.long q2), .second, .val (.long q3), .second, .val (.ref b136), .val (.int (isz fr q0 q1 q2 q3)), .unset, .unset] []))
                        refine Go.st (fun _ => XS.iconst X141.here C.hx rfl (hb C.hby at_166)) ?_
                        show Go p e below s n0 _ _ _ (T141.setTop (mkF m 167 #[.val (.int f), .val (.int m'), .val (.long l0), .second, .val (.long l1), .second, .val (.long l2), .second, .val (.long l3), .second, .val (.int fr), .val (.long q0), .second, .val (.long q1), .second, .val (.long q2), .second, .val (.long q3), .second, .val (.ref b136), .val (.int (isz fr q0 q1 q2 q3)), .unset, .unset] [(.int (0 : Int32))]))
                        exact J142 T141 (0 : Int32) X141 (by simp [isz, hc113_149, hc120_164, hc126_165, hc133_172, hc139_173, hc146_176])
                      · show Go p e below s n0 _ _ _ (T141.setTop (mkF m 149 #[.val (.int f), .val (.int m'), .val (.long l0), .second, .val (.long l1), .second, .val (.long l2), .second, .val (.long l3), .second, .val (.int fr), .val (.long q0), .second, .val (.long q1), .second, .val (.long q2), .second, .val (.long q3), .second, .val (.ref b136), .val (.int (isz fr q0 q1 q2 q3)), .unset, .unset] []))
                        refine Go.st (fun _ => XS.iload X141.here C.hx rfl (hb C.hby at_149) rfl) ?_
                        show Go p e below s n0 _ _ _ (T141.setTop (mkF m 151 #[.val (.int f), .val (.int m'), .val (.long l0), .second, .val (.long l1), .second, .val (.long l2), .second, .val (.long l3), .second, .val (.int fr), .val (.long q0), .second, .val (.long q1), .second, .val (.long q2), .second, .val (.long q3), .second, .val (.ref b136), .val (.int (isz fr q0 q1 q2 q3)), .unset, .unset] [(.int fr)]))
                        refine Go.st (fun _ => XS.iconst X141.here C.hx rfl (hb C.hby at_151)) ?_
                        show Go p e below s n0 _ _ _ (T141.setTop (mkF m 152 #[.val (.int f), .val (.int m'), .val (.long l0), .second, .val (.long l1), .second, .val (.long l2), .second, .val (.long l3), .second, .val (.int fr), .val (.long q0), .second, .val (.long q1), .second, .val (.long q2), .second, .val (.long q3), .second, .val (.ref b136), .val (.int (isz fr q0 q1 q2 q3)), .unset, .unset] [(.int (3 : Int32)), (.int fr)]))
                        refine Go.icmp_gt C X141 (pc' := 162) at_152 (by decide) (by decide) (fun hc152_177 => ?_) (fun hc152_177 => ?_)
                        · show Go p e below s n0 _ _ _ (T141.setTop (mkF m 162 #[.val (.int f), .val (.int m'), .val (.long l0), .second, .val (.long l1), .second, .val (.long l2), .second, .val (.long l3), .second, .val (.int fr), .val (.long q0), .second, .val (.long q1), .second, .val (.long q2), .second, .val (.long q3), .second, .val (.ref b136), .val (.int (isz fr q0 q1 q2 q3)), .unset, .unset] []))
                          refine Go.st (fun _ => XS.iconst X141.here C.hx rfl (hb C.hby at_162)) ?_
                          show Go p e below s n0 _ _ _ (T141.setTop (mkF m 163 #[.val (.int f), .val (.int m'), .val (.long l0), .second, .val (.long l1), .second, .val (.long l2), .second, .val (.long l3), .second, .val (.int fr), .val (.long q0), .second, .val (.long q1), .second, .val (.long q2), .second, .val (.long q3), .second, .val (.ref b136), .val (.int (isz fr q0 q1 q2 q3)), .unset, .unset] [(.int (1 : Int32))]))
                          refine Go.st (fun _ => XS.goto X141.here C.hx rfl (pc0 := 163) (pc' := 167) rfl (hb C.hby at_163) (by decide) (by decide)) ?_
                          show Go p e below s n0 _ _ _ (T141.setTop (mkF m 167 #[.val (.int f), .val (.int m'), .val (.long l0), .second, .val (.long l1), .second, .val (.long l2), .second, .val (.long l3), .second, .val (.int fr), .val (.long q0), .second, .val (.long q1), .second, .val (.long q2), .second, .val (.long q3), .second, .val (.ref b136), .val (.int (isz fr q0 q1 q2 q3)), .unset, .unset] [(.int (1 : Int32))]))
                          exact J142 T141 (1 : Int32) X141 (by simp [isz, hc113_149, hc120_164, hc126_165, hc133_172, hc139_173, hc146_176, hc152_177])
                        · show Go p e below s n0 _ _ _ (T141.setTop (mkF m 155 #[.val (.int f), .val (.int m'), .val (.long l0), .second, .val (.long l1), .second, .val (.long l2), .second, .val (.long l3), .second, .val (.int fr), .val (.long q0), .second, .val (.long q1), .second, .val (.long q2), .second, .val (.long q3), .second, .val (.ref b136), .val (.int (isz fr q0 q1 q2 q3)), .unset, .unset] []))
                          refine Go.st (fun _ => XS.lload X141.here C.hx rfl (hb C.hby at_155) rfl) ?_
                          show Go p e below s n0 _ _ _ (T141.setTop (mkF m 157 #[.val (.int f), .val (.int m'), .val (.long l0), .second, .val (.long l1), .second, .val (.long l2), .second, .val (.long l3), .second, .val (.int fr), .val (.long q0), .second, .val (.long q1), .second, .val (.long q2), .second, .val (.long q3), .second, .val (.ref b136), .val (.int (isz fr q0 q1 q2 q3)), .unset, .unset] [(.long q3)]))
                          refine Go.st (fun _ => XS.lconst X141.here C.hx rfl (hb C.hby at_157)) ?_
                          show Go p e below s n0 _ _ _ (T141.setTop (mkF m 158 #[.val (.int f), .val (.int m'), .val (.long l0), .second, .val (.long l1), .second, .val (.long l2), .second, .val (.long l3), .second, .val (.int fr), .val (.long q0), .second, .val (.long q1), .second, .val (.long q2), .second, .val (.long q3), .second, .val (.ref b136), .val (.int (isz fr q0 q1 q2 q3)), .unset, .unset] [(.long (0 : Int64)), (.long q3)]))
                          refine Go.st (fun _ => XS.lcmp X141.here C.hx rfl (hb C.hby at_158) rfl) ?_
                          show Go p e below s n0 _ _ _ (T141.setTop (mkF m 159 #[.val (.int f), .val (.int m'), .val (.long l0), .second, .val (.long l1), .second, .val (.long l2), .second, .val (.long l3), .second, .val (.int fr), .val (.long q0), .second, .val (.long q1), .second, .val (.long q2), .second, .val (.long q3), .second, .val (.ref b136), .val (.int (isz fr q0 q1 q2 q3)), .unset, .unset] [(.int (lcmpW q3 (0 : Int64)))]))
                          refine Go.lif_ne C X141 (pc' := 166) at_159 (by decide) (by decide) (fun hc159_178 => ?_) (fun hc159_178 => ?_)
                          · show Go p e below s n0 _ _ _ (T141.setTop (mkF m 166 #[.val (.int f), .val (.int m'), .val (.long l0), .second, .val (.long l1), .second, .val (.long l2), .second, .val (.long l3), .second, .val (.int fr), .val (.long q0), .second, .val (.long q1), .second, .val (.long q2), .second, .val (.long q3), .second, .val (.ref b136), .val (.int (isz fr q0 q1 q2 q3)), .unset, .unset] []))
                            refine Go.st (fun _ => XS.iconst X141.here C.hx rfl (hb C.hby at_166)) ?_
                            show Go p e below s n0 _ _ _ (T141.setTop (mkF m 167 #[.val (.int f), .val (.int m'), .val (.long l0), .second, .val (.long l1), .second, .val (.long l2), .second, .val (.long l3), .second, .val (.int fr), .val (.long q0), .second, .val (.long q1), .second, .val (.long q2), .second, .val (.long q3), .second, .val (.ref b136), .val (.int (isz fr q0 q1 q2 q3)), .unset, .unset] [(.int (0 : Int32))]))
                            exact J142 T141 (0 : Int32) X141 (by simp [isz, hc113_149, hc120_164, hc126_165, hc133_172, hc139_173, hc146_176, hc152_177, hc159_178])
                          · show Go p e below s n0 _ _ _ (T141.setTop (mkF m 162 #[.val (.int f), .val (.int m'), .val (.long l0), .second, .val (.long l1), .second, .val (.long l2), .second, .val (.long l3), .second, .val (.int fr), .val (.long q0), .second, .val (.long q1), .second, .val (.long q2), .second, .val (.long q3), .second, .val (.ref b136), .val (.int (isz fr q0 q1 q2 q3)), .unset, .unset] []))
                            refine Go.st (fun _ => XS.iconst X141.here C.hx rfl (hb C.hby at_162)) ?_
                            show Go p e below s n0 _ _ _ (T141.setTop (mkF m 163 #[.val (.int f), .val (.int m'), .val (.long l0), .second, .val (.long l1), .second, .val (.long l2), .second, .val (.long l3), .second, .val (.int fr), .val (.long q0), .second, .val (.long q1), .second, .val (.long q2), .second, .val (.long q3), .second, .val (.ref b136), .val (.int (isz fr q0 q1 q2 q3)), .unset, .unset] [(.int (1 : Int32))]))
                            refine Go.st (fun _ => XS.goto X141.here C.hx rfl (pc0 := 163) (pc' := 167) rfl (hb C.hby at_163) (by decide) (by decide)) ?_
                            show Go p e below s n0 _ _ _ (T141.setTop (mkF m 167 #[.val (.int f), .val (.int m'), .val (.long l0), .second, .val (.long l1), .second, .val (.long l2), .second, .val (.long l3), .second, .val (.int fr), .val (.long q0), .second, .val (.long q1), .second, .val (.long q2), .second, .val (.long q3), .second, .val (.ref b136), .val (.int (isz fr q0 q1 q2 q3)), .unset, .unset] [(.int (1 : Int32))]))
                            exact J142 T141 (1 : Int32) X141 (by simp [isz, hc113_149, hc120_164, hc126_165, hc133_172, hc139_173, hc146_176, hc152_177, hc159_178])
          refine Go.if_eq C XJ133 (pc' := 73) at_66 (by decide) (by decide) (fun hc66_134 => ?_) (fun hc66_134 => ?_)
          · show Go p e below s n0 _ _ _ (TJ133.setTop (mkF m 73 #[.val (.int f), .val (.int m'), .val (.long l0), .second, .val (.long l1), .second, .val (.long l2), .second, .val (.long l3), .second, .val (.int fr), .val (.long q0), .second, .val (.long q1), .second, .val (.long q2), .second, .unset, .unset, .unset, .unset, .unset, .unset] []))
            refine Go.st (fun _ => XS.lload XJ133.here C.hx rfl (hb C.hby at_73) rfl) ?_
            show Go p e below s n0 _ _ _ (TJ133.setTop (mkF m 75 #[.val (.int f), .val (.int m'), .val (.long l0), .second, .val (.long l1), .second, .val (.long l2), .second, .val (.long l3), .second, .val (.int fr), .val (.long q0), .second, .val (.long q1), .second, .val (.long q2), .second, .unset, .unset, .unset, .unset, .unset, .unset] [(.long l3)]))
            exact J135 TJ133 l3 XJ133 (trivial)
          · show Go p e below s n0 _ _ _ (TJ133.setTop (mkF m 69 #[.val (.int f), .val (.int m'), .val (.long l0), .second, .val (.long l1), .second, .val (.long l2), .second, .val (.long l3), .second, .val (.int fr), .val (.long q0), .second, .val (.long q1), .second, .val (.long q2), .second, .unset, .unset, .unset, .unset, .unset, .unset] []))
            refine Go.st (fun _ => XS.lconst XJ133.here C.hx rfl (hb C.hby at_69)) ?_
            show Go p e below s n0 _ _ _ (TJ133.setTop (mkF m 70 #[.val (.int f), .val (.int m'), .val (.long l0), .second, .val (.long l1), .second, .val (.long l2), .second, .val (.long l3), .second, .val (.int fr), .val (.long q0), .second, .val (.long q1), .second, .val (.long q2), .second, .unset, .unset, .unset, .unset, .unset, .unset] [(.long (0 : Int64))]))
            refine Go.st (fun _ => XS.goto XJ133.here C.hx rfl (pc0 := 70) (pc' := 75) rfl (hb C.hby at_70) (by decide) (by decide)) ?_
            show Go p e below s n0 _ _ _ (TJ133.setTop (mkF m 75 #[.val (.int f), .val (.int m'), .val (.long l0), .second, .val (.long l1), .second, .val (.long l2), .second, .val (.long l3), .second, .val (.int fr), .val (.long q0), .second, .val (.long q1), .second, .val (.long q2), .second, .unset, .unset, .unset, .unset, .unset, .unset] [(.long (0 : Int64))]))
            exact J135 TJ133 (0 : Int64) XJ133 (trivial)
        refine Go.if_eq C XJ131 (pc' := 58) at_51 (by decide) (by decide) (fun hc51_132 => ?_) (fun hc51_132 => ?_)
        · show Go p e below s n0 _ _ _ (TJ131.setTop (mkF m 58 #[.val (.int f), .val (.int m'), .val (.long l0), .second, .val (.long l1), .second, .val (.long l2), .second, .val (.long l3), .second, .val (.int fr), .val (.long q0), .second, .val (.long q1), .second, .unset, .unset, .unset, .unset, .unset, .unset, .unset, .unset] []))
          refine Go.st (fun _ => XS.lload XJ131.here C.hx rfl (hb C.hby at_58) rfl) ?_
          show Go p e below s n0 _ _ _ (TJ131.setTop (mkF m 60 #[.val (.int f), .val (.int m'), .val (.long l0), .second, .val (.long l1), .second, .val (.long l2), .second, .val (.long l3), .second, .val (.int fr), .val (.long q0), .second, .val (.long q1), .second, .unset, .unset, .unset, .unset, .unset, .unset, .unset, .unset] [(.long l2)]))
          exact J133 TJ131 l2 XJ131 (trivial)
        · show Go p e below s n0 _ _ _ (TJ131.setTop (mkF m 54 #[.val (.int f), .val (.int m'), .val (.long l0), .second, .val (.long l1), .second, .val (.long l2), .second, .val (.long l3), .second, .val (.int fr), .val (.long q0), .second, .val (.long q1), .second, .unset, .unset, .unset, .unset, .unset, .unset, .unset, .unset] []))
          refine Go.st (fun _ => XS.lconst XJ131.here C.hx rfl (hb C.hby at_54)) ?_
          show Go p e below s n0 _ _ _ (TJ131.setTop (mkF m 55 #[.val (.int f), .val (.int m'), .val (.long l0), .second, .val (.long l1), .second, .val (.long l2), .second, .val (.long l3), .second, .val (.int fr), .val (.long q0), .second, .val (.long q1), .second, .unset, .unset, .unset, .unset, .unset, .unset, .unset, .unset] [(.long (0 : Int64))]))
          refine Go.st (fun _ => XS.goto XJ131.here C.hx rfl (pc0 := 55) (pc' := 60) rfl (hb C.hby at_55) (by decide) (by decide)) ?_
          show Go p e below s n0 _ _ _ (TJ131.setTop (mkF m 60 #[.val (.int f), .val (.int m'), .val (.long l0), .second, .val (.long l1), .second, .val (.long l2), .second, .val (.long l3), .second, .val (.int fr), .val (.long q0), .second, .val (.long q1), .second, .unset, .unset, .unset, .unset, .unset, .unset, .unset, .unset] [(.long (0 : Int64))]))
          exact J133 TJ131 (0 : Int64) XJ131 (trivial)
      refine Go.if_eq C XJ129 (pc' := 44) at_37 (by decide) (by decide) (fun hc37_130 => ?_) (fun hc37_130 => ?_)
      · show Go p e below s n0 _ _ _ (TJ129.setTop (mkF m 44 #[.val (.int f), .val (.int m'), .val (.long l0), .second, .val (.long l1), .second, .val (.long l2), .second, .val (.long l3), .second, .val (.int fr), .val (.long q0), .second, .unset, .unset, .unset, .unset, .unset, .unset, .unset, .unset, .unset, .unset] []))
        refine Go.st (fun _ => XS.lload XJ129.here C.hx rfl (hb C.hby at_44) rfl) ?_
        show Go p e below s n0 _ _ _ (TJ129.setTop (mkF m 46 #[.val (.int f), .val (.int m'), .val (.long l0), .second, .val (.long l1), .second, .val (.long l2), .second, .val (.long l3), .second, .val (.int fr), .val (.long q0), .second, .unset, .unset, .unset, .unset, .unset, .unset, .unset, .unset, .unset, .unset] [(.long l1)]))
        exact J131 TJ129 l1 XJ129 (trivial)
      · show Go p e below s n0 _ _ _ (TJ129.setTop (mkF m 40 #[.val (.int f), .val (.int m'), .val (.long l0), .second, .val (.long l1), .second, .val (.long l2), .second, .val (.long l3), .second, .val (.int fr), .val (.long q0), .second, .unset, .unset, .unset, .unset, .unset, .unset, .unset, .unset, .unset, .unset] []))
        refine Go.st (fun _ => XS.lconst XJ129.here C.hx rfl (hb C.hby at_40)) ?_
        show Go p e below s n0 _ _ _ (TJ129.setTop (mkF m 41 #[.val (.int f), .val (.int m'), .val (.long l0), .second, .val (.long l1), .second, .val (.long l2), .second, .val (.long l3), .second, .val (.int fr), .val (.long q0), .second, .unset, .unset, .unset, .unset, .unset, .unset, .unset, .unset, .unset, .unset] [(.long (0 : Int64))]))
        refine Go.st (fun _ => XS.goto XJ129.here C.hx rfl (pc0 := 41) (pc' := 46) rfl (hb C.hby at_41) (by decide) (by decide)) ?_
        show Go p e below s n0 _ _ _ (TJ129.setTop (mkF m 46 #[.val (.int f), .val (.int m'), .val (.long l0), .second, .val (.long l1), .second, .val (.long l2), .second, .val (.long l3), .second, .val (.int fr), .val (.long q0), .second, .unset, .unset, .unset, .unset, .unset, .unset, .unset, .unset, .unset, .unset] [(.long (0 : Int64))]))
        exact J131 TJ129 (0 : Int64) XJ129 (trivial)
    refine Go.if_eq C XJ127 (pc' := 31) at_24 (by decide) (by decide) (fun hc24_128 => ?_) (fun hc24_128 => ?_)
    · show Go p e below s n0 _ _ _ (TJ127.setTop (mkF m 31 #[.val (.int f), .val (.int m'), .val (.long l0), .second, .val (.long l1), .second, .val (.long l2), .second, .val (.long l3), .second, .val (.int fr), .unset, .unset, .unset, .unset, .unset, .unset, .unset, .unset, .unset, .unset, .unset, .unset] []))
      refine Go.st (fun _ => XS.lloadN XJ127.here C.hx rfl (hb C.hby at_31) rfl) ?_
      show Go p e below s n0 _ _ _ (TJ127.setTop (mkF m 32 #[.val (.int f), .val (.int m'), .val (.long l0), .second, .val (.long l1), .second, .val (.long l2), .second, .val (.long l3), .second, .val (.int fr), .unset, .unset, .unset, .unset, .unset, .unset, .unset, .unset, .unset, .unset, .unset, .unset] [(.long l0)]))
      exact J129 TJ127 l0 XJ127 (trivial)
    · show Go p e below s n0 _ _ _ (TJ127.setTop (mkF m 27 #[.val (.int f), .val (.int m'), .val (.long l0), .second, .val (.long l1), .second, .val (.long l2), .second, .val (.long l3), .second, .val (.int fr), .unset, .unset, .unset, .unset, .unset, .unset, .unset, .unset, .unset, .unset, .unset, .unset] []))
      refine Go.st (fun _ => XS.lconst XJ127.here C.hx rfl (hb C.hby at_27)) ?_
      show Go p e below s n0 _ _ _ (TJ127.setTop (mkF m 28 #[.val (.int f), .val (.int m'), .val (.long l0), .second, .val (.long l1), .second, .val (.long l2), .second, .val (.long l3), .second, .val (.int fr), .unset, .unset, .unset, .unset, .unset, .unset, .unset, .unset, .unset, .unset, .unset, .unset] [(.long (0 : Int64))]))
      refine Go.st (fun _ => XS.goto XJ127.here C.hx rfl (pc0 := 28) (pc' := 32) rfl (hb C.hby at_28) (by decide) (by decide)) ?_
      show Go p e below s n0 _ _ _ (TJ127.setTop (mkF m 32 #[.val (.int f), .val (.int m'), .val (.long l0), .second, .val (.long l1), .second, .val (.long l2), .second, .val (.long l3), .second, .val (.int fr), .unset, .unset, .unset, .unset, .unset, .unset, .unset, .unset, .unset, .unset, .unset, .unset] [(.long (0 : Int64))]))
      exact J129 TJ127 (0 : Int64) XJ127 (trivial)
  refine Go.if_eq C X0 (pc' := 15) at_5 (by decide) (by decide) (fun hc5_126 => ?_) (fun hc5_126 => ?_)
  · show Go p e below s n0 _ _ _ (T0.setTop (mkF m 15 #[.val (.int f), .val (.int m'), .val (.long l0), .second, .val (.long l1), .second, .val (.long l2), .second, .val (.long l3), .second, .unset, .unset, .unset, .unset, .unset, .unset, .unset, .unset, .unset, .unset, .unset, .unset, .unset] []))
    refine Go.st (fun _ => XS.iloadN X0.here C.hx rfl (hb C.hby at_15) rfl) ?_
    show Go p e below s n0 _ _ _ (T0.setTop (mkF m 16 #[.val (.int f), .val (.int m'), .val (.long l0), .second, .val (.long l1), .second, .val (.long l2), .second, .val (.long l3), .second, .unset, .unset, .unset, .unset, .unset, .unset, .unset, .unset, .unset, .unset, .unset, .unset, .unset] [(.int f)]))
    refine Go.st (fun _ => XS.bipush X0.here C.hx rfl (hb C.hby at_16)) ?_
    show Go p e below s n0 _ _ _ (T0.setTop (mkF m 18 #[.val (.int f), .val (.int m'), .val (.long l0), .second, .val (.long l1), .second, .val (.long l2), .second, .val (.long l3), .second, .unset, .unset, .unset, .unset, .unset, .unset, .unset, .unset, .unset, .unset, .unset, .unset, .unset] [(.int (7 : Int32)), (.int f)]))
    refine Go.st (fun _ => XS.iand X0.here C.hx rfl (hb C.hby at_18) rfl) ?_
    show Go p e below s n0 _ _ _ (T0.setTop (mkF m 19 #[.val (.int f), .val (.int m'), .val (.long l0), .second, .val (.long l1), .second, .val (.long l2), .second, .val (.long l3), .second, .unset, .unset, .unset, .unset, .unset, .unset, .unset, .unset, .unset, .unset, .unset, .unset, .unset] [(.int (f &&& (7 : Int32)))]))
    exact J127 T0 (f &&& (7 : Int32)) X0 (nn7 f)
  · show Go p e below s n0 _ _ _ (T0.setTop (mkF m 8 #[.val (.int f), .val (.int m'), .val (.long l0), .second, .val (.long l1), .second, .val (.long l2), .second, .val (.long l3), .second, .unset, .unset, .unset, .unset, .unset, .unset, .unset, .unset, .unset, .unset, .unset, .unset, .unset] []))
    refine Go.st (fun _ => XS.iloadN X0.here C.hx rfl (hb C.hby at_8) rfl) ?_
    show Go p e below s n0 _ _ _ (T0.setTop (mkF m 9 #[.val (.int f), .val (.int m'), .val (.long l0), .second, .val (.long l1), .second, .val (.long l2), .second, .val (.long l3), .second, .unset, .unset, .unset, .unset, .unset, .unset, .unset, .unset, .unset, .unset, .unset, .unset, .unset] [(.int f)]))
    refine Go.ldcI C X0 (wd 5 rfl) at_9 ?_
    show Go p e below s n0 _ _ _ (T0.setTop (mkF m 11 #[.val (.int f), .val (.int m'), .val (.long l0), .second, .val (.long l1), .second, .val (.long l2), .second, .val (.long l3), .second, .unset, .unset, .unset, .unset, .unset, .unset, .unset, .unset, .unset, .unset, .unset, .unset, .unset] [(.int (2147483647 : Int32)), (.int f)]))
    refine Go.st (fun _ => XS.iand X0.here C.hx rfl (hb C.hby at_11) rfl) ?_
    show Go p e below s n0 _ _ _ (T0.setTop (mkF m 12 #[.val (.int f), .val (.int m'), .val (.long l0), .second, .val (.long l1), .second, .val (.long l2), .second, .val (.long l3), .second, .unset, .unset, .unset, .unset, .unset, .unset, .unset, .unset, .unset, .unset, .unset, .unset, .unset] [(.int (f &&& (2147483647 : Int32)))]))
    refine Go.st (fun _ => XS.goto X0.here C.hx rfl (pc0 := 12) (pc' := 19) rfl (hb C.hby at_12) (by decide) (by decide)) ?_
    show Go p e below s n0 _ _ _ (T0.setTop (mkF m 19 #[.val (.int f), .val (.int m'), .val (.long l0), .second, .val (.long l1), .second, .val (.long l2), .second, .val (.long l3), .second, .unset, .unset, .unset, .unset, .unset, .unset, .unset, .unset, .unset, .unset, .unset, .unset, .unset] [(.int (f &&& (2147483647 : Int32)))]))
    exact J127 T0 (f &&& (2147483647 : Int32)) X0 (nn31 f)
set_option maxRecDepth 65536 in
set_option maxHeartbeats 40000000 in
theorem comes_1 {Post : Tables → Env → Array Value → State → Outcome → State → Prop} (hpost : ∀ tb e args s v u, (limb_1_1.after args s (.returned v) u = true ∧ limb_1_2.after args s (.returned v) u = true ∧ True) → FrameEnd s (.returned v) u (Jvm.fieldLocs frame_1_writes args s ++ Jvm.arrayLocs frame_1_arrays args s ++ Jvm.staticLocs frame_1_statics s) 16 128 → Post tb e args s (.returned v) u) :
    ArmFor flags0 classFile x code maxLocals ret World_1 tables_1 room_1 Calls_1 rest_1 Pre_1 Post := by
  intro l hfl _ _ p e ha hc hk s m args below hf hA hF happ hP
  obtain ⟨hcalls, hrest, hpre⟩ := hP
  obtain ⟨-, -, -, hnamed, -, -, -, hat⟩ := (Spec.applies_iff hf).mp happ
  obtain ⟨hg, hn⟩ := and_e (Cond.before_iff.mp (show (Jvm.Cond.and given_1 narrow_1).before args s = true from hpre))
  obtain ⟨h1, hr0⟩ := and_e hg
  obtain ⟨ha0, hr1⟩ := and_e hr0
  obtain ⟨ha1, hr2⟩ := and_e hr1
  obtain ⟨ha2, hr3⟩ := and_e hr2
  obtain ⟨ha3, hr4⟩ := and_e hr3
  obtain ⟨ha4, hr5⟩ := and_e hr4
  have ha5 := hr5
  obtain ⟨w0, w1, w2, w3, w4, w5, rfl⟩ : ∃ w0 w1 w2 w3 w4 w5 : Value, args = #[w0, w1, w2, w3, w4, w5] := by
    have hs : args.size = 6 := by simpa [Cond.value, given_1] using h1
    obtain ⟨L⟩ := args
    match L, hs with
    | [w0, w1, w2, w3, w4, w5], _ => exact ⟨w0, w1, w2, w3, w4, w5, rfl⟩
  have hw := fun d (hd : d ∈ tables_1) => atoms_spec (ws := Jvm.Cond.code x code maxLocals ret :: tables_1) hat d (List.mem_cons_of_mem _ hd)
  obtain ⟨i0, e0⟩ := is_v ha0
  obtain rfl : w0 = (.int i0) := Option.some.inj e0
  obtain ⟨i1, e1⟩ := is_v ha1
  obtain rfl : w1 = (.int i1) := Option.some.inj e1
  obtain ⟨i2, e2⟩ := isL_v ha2
  obtain rfl : w2 = (.long i2) := Option.some.inj e2
  obtain ⟨i3, e3⟩ := isL_v ha3
  obtain rfl : w3 = (.long i3) := Option.some.inj e3
  obtain ⟨i4, e4⟩ := isL_v ha4
  obtain rfl : w4 = (.long i4) := Option.some.inj e4
  obtain ⟨i5, e5⟩ := isL_v ha5
  obtain rfl : w5 = (.long i5) := Option.some.inj e5
  obtain ⟨n, o, h1, h2, h3, _, L, rfl, ⟨rfl, N⟩, hq⟩ := con_law l s _ hw s.heap.size s.heap (Nat.le_refl _) i0 i1 i2 i3 i4 i5  p e ha hc hk s m _ below hf ((Spec.applies_iff_loose hf).mp happ).1 ⟨rfl, State.Warmed39.refl s, rfl⟩ trivial
  refine ⟨n, _, h1, h2, h3, hpost _ _ _ _ _ _ ⟨Cond.after_iff.mpr rfl, Cond.after_iff.mpr (eq_i res_at (Term.int_eval (1)) rfl), trivial⟩ ⟨hq.1, hq.2.1, (hq.2.2.sift fun y hy => Or.inr (N y hy)).mono (by decide) (by decide)⟩⟩
theorem main_1_1 : Claimed_1_1 := comes_1 fun _ _ _ _ _ _ h hF => ⟨h.1, hF⟩
theorem main_1_2 : Claimed_1_2 := comes_1 fun _ _ _ _ _ _ h hF => ⟨h.2.1, hF⟩
end Jvm.Pilot.@@N@@
namespace Jvm.Pilot.@@N@@
open Jvm Jvm.ClassFile Sem Op Lib Jvm.Free Jvm.Stand Jvm.Pilot.@@N@@.Jvm.D
/-! MADE BY PROGRAM (witnessworld.py) out of the Statement's table words and the real class files: 11 classes; the members and pool entries that the words name. The judged class is class 1, her method 1. -/
namespace start1
open Jvm.ClassFile
def u (s : String) : CpInfo := .utf8 (stringToUtf16 s)
/-- a pool by its gaps: so many unusable entries, then the entry; so many at the end -/
def gap : Nat → List CpInfo → List CpInfo
  | 0, r => r
  | n + 1, r => .unusable :: gap n r
def poolList (es : List (Nat × CpInfo)) (last : Nat) : List CpInfo := es.foldr (fun e r => gap e.1 (e.2 :: r)) (gap last [])
def pool (es : List (Nat × CpInfo)) (last : Nat) : Array CpInfo := ⟨poolList es last⟩
def fileOf (pool : Array CpInfo) (this : Nat) (attrs : Array Attribute := #[]) (ms : Array MethodInfo := #[]) (fl : Nat := 33) (sup : Nat := 0) (ifs : Array Nat := #[]) (fds : Array FieldInfo := #[]) : ClassFile where
  minorVersion := 0
  majorVersion := 65
  constantPool := pool
  accessFlags := fl
  thisClass := this
  superClass := sup
  interfaces := ifs
  fields := fds
  methods := ms
  attributes := attrs
def plain (name : String) (sup : Option ClassId) : Class where
  name := name
  kind := .ordinary
  loader := none
  accessFlags := 33
  super := sup
  interfaces := #[]
  cf := none
  fields := #[]
  methods := #[]
  instanceTypes := #[]
  staticTypes := #[]
  resolved := #[]
  callSites := []
  init := .initialized
  statics := none
  mirror := none

def pool0 : Array CpInfo := pool [(5, u "<init>"), (0, u "()V"), (1, .class_ 10), (1, u "java/lang/Object")] 113

def k0m0 : Method := { name := "<init>", desc := "()V", sig := { parameters := [], returnType := none }, accessFlags := 1, code := none }
/-- java/lang/Object -/
def k0 : Class := { plain "java/lang/Object" none with
  accessFlags := 33
  interfaces := #[]
  cf := some (fileOf pool0 8 #[] #[{ accessFlags := 1, nameIndex := 5, descriptorIndex := 6, attributes := #[] }] 33 0 #[] #[])
  fields := #[]
  methods := #[k0m0]
  instanceTypes := #[]
  staticTypes := #[]
  resolved := Array.replicate 124 none
  statics := none }

def pool1 : Array CpInfo := pool [(2, .class_ 4), (1, u "java/lang/Object"), (0, u "<init>"), (0, u "()V"), (0, .integer 2147483647), (0, .methodref 9 10), (0, .class_ 11), (0, .nameAndType 12 13), (0, u "com/example/strict_attest/strictattest/evidence/signature/Limbs"), (0, u "isZero"), (0, u "([JI)Z"), (0, .class_ 15), (0, u "com/example/strict_attest/strictattest/evidence/signature/LimbsIsZeroPinLaw"), (2, u "law"), (0, u "(IIJJJJ)Z")] 5

def k1m0 : Method := { name := "<init>", desc := "()V", sig := { parameters := [], returnType := none }, accessFlags := 1, code := none }
def k1c1 : Code := { maxStack := 5, maxLocals := 23, code := code, exceptionTable := #[], attributes := #[] }
def k1m1 : Method := { name := "law", desc := "(IIJJJJ)Z", sig := { parameters := [.int, .int, .long, .long, .long, .long], returnType := some .boolean }, accessFlags := 9, code := some k1c1 }
/-- com/example/strict_attest/strictattest/evidence/signature/LimbsIsZeroPinLaw -/
def k1 : Class := { plain "com/example/strict_attest/strictattest/evidence/signature/LimbsIsZeroPinLaw" (some 0) with
  accessFlags := 49
  interfaces := #[]
  cf := some (fileOf pool1 14 #[] #[{ accessFlags := 1, nameIndex := 5, descriptorIndex := 6, attributes := #[] }, { accessFlags := 9, nameIndex := 18, descriptorIndex := 19, attributes := #[] }] 49 2 #[] #[])
  fields := #[]
  methods := #[k1m0, k1m1]
  instanceTypes := #[]
  staticTypes := #[]
  resolved := Array.replicate 25 none
  statics := none }

def pool2 : Array CpInfo := pool [(1, .class_ 2), (0, u "com/example/strict_attest/strictattest/evidence/signature/Limbs"), (1, .class_ 6), (1, u "java/lang/Object"), (0, u "<init>"), (0, u "()V"), (37, u "isZero"), (0, u "([JI)Z"), (0, u "LIMB_BITS"), (0, u "I"), (2, u "LIMB_MASK"), (0, u "J")] 14

def k2m0 : Method := { name := "<init>", desc := "()V", sig := { parameters := [], returnType := none }, accessFlags := 2, code := none }
def k2c1 : Code := { maxStack := 4, maxLocals := 3, code := prog_95_method_7_code, exceptionTable := #[], attributes := #[] }
def k2m1 : Method := { name := "isZero", desc := "([JI)Z", sig := { parameters := [(.array .long), .int], returnType := some .boolean }, accessFlags := 8, code := some k2c1 }
/-- com/example/strict_attest/strictattest/evidence/signature/Limbs -/
def k2 : Class := { plain "com/example/strict_attest/strictattest/evidence/signature/Limbs" (some 0) with
  accessFlags := 48
  interfaces := #[]
  cf := some (fileOf pool2 1 #[] #[{ accessFlags := 2, nameIndex := 7, descriptorIndex := 8, attributes := #[] }, { accessFlags := 8, nameIndex := 46, descriptorIndex := 47, attributes := #[] }] 48 4 #[] #[{ accessFlags := 24, nameIndex := 48, descriptorIndex := 49, attributes := #[] }, { accessFlags := 24, nameIndex := 52, descriptorIndex := 53, attributes := #[] }])
  fields := #[{ name := "LIMB_BITS", type := .int, accessFlags := 24, slot := 0, constantValue := 0 }, { name := "LIMB_MASK", type := .long, accessFlags := 24, slot := 1, constantValue := 0 }]
  methods := #[k2m0, k2m1]
  instanceTypes := #[]
  staticTypes := #[.int, .long]
  resolved := Array.replicate 68 none
  statics := none }

def pool3 : Array CpInfo := pool [(1, u "java/lang/Cloneable"), (0, .class_ 1), (0, u "java/lang/Object"), (0, .class_ 3)] 3

/-- java/lang/Cloneable -/
def k3 : Class := { plain "java/lang/Cloneable" (some 0) with
  accessFlags := 1537
  interfaces := #[]
  cf := some (fileOf pool3 2 #[] #[] 1537 4 #[] #[])
  fields := #[]
  methods := #[]
  instanceTypes := #[]
  staticTypes := #[]
  resolved := Array.replicate 8 none
  statics := none }

def pool4 : Array CpInfo := pool [(1, u "java/io/Serializable"), (0, .class_ 1), (0, u "java/lang/Object"), (0, .class_ 3)] 3

/-- java/io/Serializable -/
def k4 : Class := { plain "java/io/Serializable" (some 0) with
  accessFlags := 1537
  interfaces := #[]
  cf := some (fileOf pool4 2 #[] #[] 1537 4 #[] #[])
  fields := #[]
  methods := #[]
  instanceTypes := #[]
  staticTypes := #[]
  resolved := Array.replicate 8 none
  statics := none }

/-- the primitive byte -/
def k5 : Class := { plain "byte" none with kind := .primitive 'B', accessFlags := 0x411 }
/-- [B -/
def k6 : Class := { plain "[B" (some 0) with kind := .array 5 .byte, interfaces := #[3, 4], accessFlags := 1041 }

/-- the primitive int -/
def k7 : Class := { plain "int" none with kind := .primitive 'I', accessFlags := 0x411 }
/-- [I -/
def k8 : Class := { plain "[I" (some 0) with kind := .array 7 .int, interfaces := #[3, 4], accessFlags := 1041 }

/-- the primitive long -/
def k9 : Class := { plain "long" none with kind := .primitive 'J', accessFlags := 0x411 }
/-- [J -/
def k10 : Class := { plain "[J" (some 0) with kind := .array 9 .long, interfaces := #[3, 4], accessFlags := 1041 }

def heap : Heap := #[]
def classes : Array Class := #[k0, k1, k2, k3, k4, k5, k6, k7, k8, k9, k10]
def interned : List (Array UInt16 × Addr) := []
def slotsUsed : Nat := 0
def theMethod : MethodId := ⟨1, 1⟩
def args0 : Array Value := #[.int 3, .int 2, .long 5, .long 2, .long 3, .long 9]
def aboutOver (below : List Frame) : State where
  vm := { classes := classes, interned := interned.toArray }
  heap := heap
  slotsUsed := slotsUsed
  threads := #[{ frames := .invoking theMethod args0 :: below }]
def below0 : List Frame := [.native { method := ⟨0, 0⟩, args := #[] }]
def about1 : State := aboutOver below0
def p0 : Program := .bare "" "" ""
def e0 : Env := launch0.env 0 0 0
theorem w_frames : about1.frames = Frame.invoking theMethod args0 :: below0 := rfl
set_option maxRecDepth 65536 in
theorem w_args : argsFit about1.vm theMethod args0 = true := by decide +kernel
set_option maxRecDepth 65536 in
theorem w_heap : heapFits about1 = true := by decide +kernel
set_option maxRecDepth 65536 in
theorem w_runnable : about1.curStatus? = some .runnable := by decide +kernel
set_option maxRecDepth 65536 in
theorem w_alone : about1.alone = true := by decide +kernel
set_option maxRecDepth 65536 in
theorem w_named : about1.methodNamed? x = some theMethod := by decide +kernel
set_option maxRecDepth 65536 in
theorem w_hears : about1.hears theMethod below0 = true := by decide +kernel
set_option maxRecDepth 65536 in
theorem w_ripe : about1.ripe theMethod args0 below0 = true := by decide +kernel
theorem w_running : about1.status = .running := rfl
set_option maxRecDepth 65536 in
theorem w_room : about1.hasRoom e0.platform room_1 = true :=
  launch0.hasRoom_least _ room_1 (by decide +kernel) (by decide +kernel) (by decide +kernel) (by decide +kernel) (by decide +kernel) (by decide +kernel)
theorem allAtoms_all (ts : List Jvm.Cond) (a : Array Jvm.Value) (st : Jvm.State) : (allAtoms ts).before a st = ts.all (fun c => c.before a st) := by
  induction ts with
  | nil => rfl
  | cons c t ih =>
    show (Jvm.Cond.and c (allAtoms t)).before a st = _
    rw [Jvm.Cond.before_and, ih, List.all_cons]
def words1 : List Jvm.Cond := Jvm.Cond.code x code maxLocals ret :: tables_1
/-- a 'code' word, met by the world's own term for the bytes: nothing is compared byte by byte -/
theorem code_word {y : MethodName} {bytes : ByteArray} {mx : Nat} {rt : Option FieldType} {a : Array Value} {s : State} {m : MethodId} {meth : Method} {c : Code} (h1 : s.methodNamed? y = some m) (h2 : s.vm.method? m = some meth) (h3 : meth.code = some c) (h4 : c.code = bytes)
    (h5 : (c.maxLocals == mx && c.exceptionTable.isEmpty && decide (c.maxStack ≤ mostOperands) && decide (meth.sig.returnType = rt) && !meth.locks && decide (parseMethodDescriptor y.desc = some meth.sig)) = true) : (Jvm.Cond.code y bytes mx rt).before a s = true := by
  simp only [Bool.and_eq_true, beq_iff_eq, Bool.not_eq_true', decide_eq_true_eq] at h5
  obtain ⟨⟨⟨⟨⟨g1, g2⟩, g3⟩, g4⟩, g5⟩, g6⟩ := h5
  simp [Cond.before, Cond.holds, Cond.value, h1, h2, h3, h4, g1, g2, g3, g4, g5, g6]
def isCode : Jvm.Cond → Bool
  | .code _ _ _ _ => true
  | _ => false
theorem all_split {L : List Jvm.Cond} {P : Jvm.Cond → Bool} (h1 : L.all (fun c => isCode c || P c) = true) (h2 : ∀ c ∈ L.filter isCode, P c = true) : L.all P = true := by
  refine List.all_eq_true.mpr fun c hc => ?_
  have h := List.all_eq_true.mp h1 c hc
  rcases Bool.eq_false_or_eq_true (isCode c) with hi | hi
  · exact h2 c (List.mem_filter.mpr ⟨hc, hi⟩)
  · simpa [hi] using h
set_option maxRecDepth 65536 in
theorem w_c0 : (Jvm.Cond.code x code maxLocals ret).before args0 about1 = true := code_word (m := ⟨1, 1⟩) (meth := k1m1) (c := k1c1) (by decide +kernel) rfl rfl rfl (by decide +kernel)
set_option maxRecDepth 65536 in
theorem w_c1 : (Jvm.Cond.code ({ cls := "com/example/strict_attest/strictattest/evidence/signature/Limbs", name := "isZero", desc := "([JI)Z" } : Jvm.MethodName) prog_95_method_7_code (3 : Nat) (Option.some Jvm.ClassFile.FieldType.boolean)).before args0 about1 = true := code_word (m := ⟨2, 1⟩) (meth := k2m1) (c := k2c1) (by decide +kernel) rfl rfl rfl (by decide +kernel)
def codes1 : List Jvm.Cond := [Jvm.Cond.code x code maxLocals ret, Jvm.Cond.code ({ cls := "com/example/strict_attest/strictattest/evidence/signature/Limbs", name := "isZero", desc := "([JI)Z" } : Jvm.MethodName) prog_95_method_7_code (3 : Nat) (Option.some Jvm.ClassFile.FieldType.boolean)]
set_option maxRecDepth 65536 in
theorem codes_eq : words1.filter isCode = codes1 := rfl
theorem w_codes : ∀ c ∈ words1.filter isCode, c.before args0 about1 = true := by
  rw [codes_eq]
  intro c hc
  simp only [codes1, List.mem_cons, List.not_mem_nil, or_false] at hc
  rcases hc with rfl | rfl
  · exact w_c0
  · exact w_c1
set_option maxRecDepth 65536 in
theorem w_t1 : words1.all (fun c => isCode c || c.before args0 about1) = true := by decide +kernel
theorem w_tables : (allAtoms (Jvm.Cond.code x code maxLocals ret :: tables_1)).before args0 about1 = true := by
  rw [allAtoms_all]
  show words1.all (fun c => c.before args0 about1) = true
  refine all_split ?_ w_codes
  rw [w_t1]
set_option maxRecDepth 65536 in
theorem w_case : (Jvm.Cond.and given_1 narrow_1).before args0 about1 = true := by decide +kernel
theorem w_applies : (headSpec (Jvm.Cond.code x code maxLocals ret :: tables_1) room_1).applies x e0.platform about1 = true :=
  (Spec.applies_iff w_frames).mpr ⟨w_running, w_runnable, w_alone, w_named, w_hears, w_ripe, w_room, w_tables⟩
theorem atStart : AtStart classFile x code maxLocals ret World_1 tables_1 room_1 Calls_1 rest_1 Pre_1 launch0 p0 e0 about1 theMethod args0 below0 :=
  ⟨lists_1, trivial, launch0.admits_env _ _ _, launch0.least_env, fairChoices_fair.cas, fairChoices_fair.clock, w_frames, w_args, w_heap, w_applies, trivial, trivial, w_case⟩
end start1
theorem witness_1 : WitnessClaimed_1 := ⟨start1.p0, start1.e0, start1.about1, start1.theMethod, start1.args0, start1.below0, start1.atStart⟩
end Jvm.Pilot.@@N@@

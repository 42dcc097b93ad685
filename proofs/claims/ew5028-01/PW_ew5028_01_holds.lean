import PyProof.Rows.All
import Wide.All
import OpenK.AllK
import Wide.FinOn
import KE.KBytesCut
import KE.KxDecode
import PySem.Challenge.RW_ew5028_01
section
open PySem PySem.W PyProof.Rows PySem.Calls
set_option Elab.async false
set_option maxRecDepth 100000
namespace Mine
abbrev PW : Program := PySem.Challenge.pw_ew5028_01
def dS : Shared := {}
def s0 (w : World) : Shared := (fencedOpening treeTable PW w 12000).getD dS
abbrev ann0 : Option Value := some (.ref 6)
def envE : Env := { scope := PW.main.scope, locals := mainNs, globals := mainNs, cells := [], code := .ref 30, frame := some 31 }
def p0 : Pos := ⟨0, 0, 0, 0⟩
def cE : Code := .body (behindTheImports PW) envE
def sA (w : World) : Shared := match topGo treeTable PW w 28 ann0 12 (s0 w) (topStub PW) with | some (s, _) => s | none => dS
def sB (w : World) : Shared := match segRun treeTable PW w 28 ann0 1 1 (sA w) (blockOf (behindTheImports PW) envE cE p0 [topFrame p0]) with | some (_, s, _, _) => s | none => dS
def p1 : Pos := ⟨5, 0, 8, 12⟩
def l1 : List Stmt := (behindTheImports PW).take 3
def sC (w : World) : Shared := match segRun treeTable PW w 28 ann0 1 80 (sB w) (piecesOf l1 envE cE p0 [topFrame p0]) with | some (_, s, _, _) => s | none => dS
end Mine
end
section
open PySem PySem.W PyProof.Rows PySem.Calls
set_option Elab.async false
set_option maxRecDepth 100000
namespace Mine
abbrev tF : List Frame := [topFrame p0]
theorem segGo_trans {w : World} : ∀ {n m : Nat} {s s1 : Shared} {t t1 : Thread} {r : Option (Shared × Thread)}, segGo treeTable PW w 28 ann0 1 n s t = some (s1, t1) → segGo treeTable PW w 28 ann0 1 m s1 t1 = r →
    segGo treeTable PW w 28 ann0 1 (n + m) s t = r
  | 0, m, s, s1, t, t1, r, h, k => by
    obtain ⟨rfl, rfl⟩ : s = s1 ∧ t = t1 := by simpa [segGo] using h
    rw [Nat.zero_add]; exact k
  | n + 1, m, s, s1, t, t1, r, h, k => by
    rw [show n + 1 + m = n + m + 1 by omega]
    unfold segGo at h ⊢
    cases he : endAt 1 t with
    | some f => rw [he] at h; cases h
    | none =>
      rw [he] at h
      cases hk : stepOk 28 ann0 t with
      | false => rw [hk] at h; cases h
      | true =>
        rw [hk] at h
        cases hs : step (denote treeTable) PW w s t with
        | halt o s₂ => rw [hs] at h; cases h
        | go s₂ t₂ => rw [hs] at h; exact segGo_trans h k

def Ev (w : World) (c : Nat) {α : Type} (t : Sem α) (s : Shared) (a : α) (s' : Shared) : Prop :=
  ∀ (K : α → Sem Fin) (H : Value → Sem Fin) (gd : Bool → Bool) (lv : List Value → List Value) (pos : Pos),
    ∃ n pos', n ≤ c ∧ segGo treeTable PW w 28 ann0 1 n s ⟨t.wrap K H gd lv, cE, pos, tF⟩ = some (s', ⟨K a, cE, pos', tF⟩)

section
variable {w : World} {c c1 c2 : Nat} {α β : Type} {s s' s1 : Shared} {a : α} {b : β}
theorem Ev.pure' (a : α) : Ev w c (Sem.pure a) s a s := fun _ _ _ _ pos => ⟨0, pos, Nat.zero_le _, rfl⟩
theorem Ev.pure (a : α) : Ev w c (Pure.pure a : Sem α) s a s := fun _ _ _ _ pos => ⟨0, pos, Nat.zero_le _, rfl⟩
theorem Ev.le {m : Sem α} (h : c1 ≤ c) (x : Ev w c1 m s a s') : Ev w c m s a s' := fun K H gd lv pos => by
  obtain ⟨n, p, hn, e⟩ := x K H gd lv pos
  exact ⟨n, p, Nat.le_trans hn h, e⟩
theorem Ev.bind {m : Sem α} {f : α → Sem β} (x : Ev w c1 m s a s1) (y : Ev w (c - c1) (f a) s1 b s') (hc : c1 ≤ c := by first | decide | omega) : Ev w c (m >>= f) s b s' := fun K H gd lv pos => by
  obtain ⟨n, p1, hn, e⟩ := x (fun a => (f a).wrap K H gd lv) H gd lv pos
  obtain ⟨n2, p2, hn2, e2⟩ := y K H gd lv p1
  refine ⟨n + n2, p2, by omega, segGo_trans (s1 := s1) ?_ e2⟩
  rw [Sem.bind_eq_wrap', Sem.wrap_wrap]
  exact e
theorem Ev.keep {m : Sem α} {vs : List Value} (x : Ev w c m s a s') : Ev w c (m.keep vs) s a s' := fun K H gd lv pos => by
  rw [Sem.keep_eq_wrap, Sem.wrap_wrap]
  exact x K H _ _ pos
theorem Ev.holding {m : Sem α} {vs : List Value} (x : Ev w c m s a s') : Ev w c (holding vs m) s a s' := by
  unfold PySem.holding
  split
  · exact x
  · exact x.keep
theorem one {n : Nat} {s s1 s' : Shared} {cur cur1 : Sem Fin} {pos pos1 pos' : Pos} {K : Sem Fin} (hk : stepOk 28 ann0 ⟨cur, cE, pos, tF⟩ = true) (he : endAt 1 ⟨cur, cE, pos, tF⟩ = none)
    (hs : step (denote treeTable) PW w s ⟨cur, cE, pos, tF⟩ = .go s1 ⟨cur1, cE, pos1, tF⟩) (e : segGo treeTable PW w 28 ann0 1 n s1 ⟨cur1, cE, pos1, tF⟩ = some (s', ⟨K, cE, pos', tF⟩)) :
    segGo treeTable PW w 28 ann0 1 (n + 1) s ⟨cur, cE, pos, tF⟩ = some (s', ⟨K, cE, pos', tF⟩) := by
  unfold segGo
  rw [he, hk, hs]
  exact e
theorem Ev.rule' {tag : String} {k : Unit → Sem α} (x : Ev w c (k ()) s a s') : Ev w (c + 1) (.rule tag k) s a s' := fun K H gd lv pos => by
  obtain ⟨n, p', hn, e⟩ := x K H gd lv pos
  obtain ⟨h, g, d, tk, o⟩ := s
  exact ⟨n + 1, p', Nat.succ_le_succ hn, one rfl rfl rfl e⟩
theorem Ev.at' {q : Pos} {k : Unit → Sem α} (x : Ev w c (k ()) s a s') : Ev w (c + 1) (.at q k) s a s' := fun K H gd lv pos => by
  obtain ⟨n, p', hn, e⟩ := x K H gd lv q
  obtain ⟨h, g, d, tk, o⟩ := s
  exact ⟨n + 1, p', Nat.succ_le_succ hn, one rfl rfl rfl e⟩
theorem Ev.point' {l : List Value} {k : Unit → Sem α} (x : Ev w c (k ()) s a s') : Ev w (c + 1) (.point l k) s a s' := fun K H gd lv pos => by
  obtain ⟨n, p', hn, e⟩ := x K H gd lv pos
  obtain ⟨h, g, d, tk, o⟩ := s
  exact ⟨n + 1, p', Nat.succ_le_succ hn, one rfl rfl rfl e⟩
theorem Ev.ask' {k : Setting → Sem α} (x : Ev w c (k ⟨PW, w.params⟩) s a s') : Ev w (c + 1) (.ask k) s a s' := fun K H gd lv pos => by
  obtain ⟨n, p', hn, e⟩ := x K H gd lv pos
  obtain ⟨h, g, d, tk, o⟩ := s
  exact ⟨n + 1, p', Nat.succ_le_succ hn, one rfl rfl rfl e⟩
theorem Ev.fresh' {k : Tok → Sem α} (x : Ev w c (k s.toks) { s with toks := s.toks + 1 } a s') : Ev w (c + 1) (.fresh k) s a s' := fun K H gd lv pos => by
  obtain ⟨n, p', hn, e⟩ := x K H gd lv pos
  obtain ⟨h, g, d, tk, o⟩ := s
  exact ⟨n + 1, p', Nat.succ_le_succ hn, one rfl rfl rfl e⟩
theorem Ev.load' {ad : Addr} {q : Option Value} {o : Obj} {k : Obj → Sem α} (ho : s.heap.get? ad = some o) (x : Ev w c (k o) s a s') : Ev w (c + 1) (.load ad q k) s a s' := fun K H gd lv pos => by
  obtain ⟨n, p', hn, e⟩ := x K H gd lv pos
  obtain ⟨h, g, d, tk, os⟩ := s
  refine ⟨n + 1, p', Nat.succ_le_succ hn, one rfl rfl ?_ e⟩
  dsimp only at ho
  simp only [Sem.wrap, step, ho]
theorem Ev.alloc' {o : Obj} {k : Addr → Sem α} (x : Ev w c (k s.heap.objs.size) { s with heap := s.heap.push o } a s') : Ev w (c + 1) (.alloc o k) s a s' := fun K H gd lv pos => by
  obtain ⟨n, p', hn, e⟩ := x K H gd lv pos
  obtain ⟨h, g, d, tk, os⟩ := s
  exact ⟨n + 1, p', Nat.succ_le_succ hn, one rfl rfl rfl e⟩
theorem Ev.update' {ad : Addr} {q : Option Value} {f : Obj → Obj} {k : Unit → Sem α} (hl : (Nat.ble 28 ad || ad == mainNs || ad == cStatics || ann0 == some (.ref ad)) = true) (ho : (s.heap.get? ad).isSome = true)
    (x : Ev w c (k ()) { s with heap := s.heap.update ad f } a s') : Ev w (c + 1) (.update ad q f k) s a s' := fun K H gd lv pos => by
  obtain ⟨n, p', hn, e⟩ := x K H gd lv pos
  obtain ⟨h, g, d, tk, os⟩ := s
  refine ⟨n + 1, p', Nat.succ_le_succ hn, one ?_ rfl ?_ e⟩
  · have : stepOk 28 ann0 ⟨(Sem.update ad q f k).wrap K H gd lv, cE, pos, tF⟩ = (true && (Nat.ble 28 ad || ad == mainNs || ad == cStatics || ann0 == some (.ref ad))) := rfl
    rw [this, hl]; rfl
  · dsimp only at ho
    simp only [Sem.wrap, step, ho, if_true]
theorem Ev.eq {t t' : Sem α} (e : t = t') (x : Ev w c t' s a s') : Ev w c t s a s' := by rw [e]; exact x

theorem Ev.rule (tag : String) : Ev w 1 (PySem.rule tag) s () s := Ev.rule' (c := 0) (Ev.pure' ())
theorem Ev.standAt (q : Pos) : Ev w 1 (PySem.standAt q) s () s := Ev.at' (c := 0) (Ev.pure' ())
theorem Ev.point : Ev w 1 PySem.point s () s := Ev.point' (c := 0) (Ev.pure' ())
theorem Ev.ask : Ev w 1 PySem.ask s ⟨PW, w.params⟩ s := Ev.ask' (c := 0) (Ev.pure' _)
theorem Ev.load {ad : Addr} {o : Obj} (ho : s.heap.get? ad = some o) : Ev w 1 (PySem.load ad) s o s := Ev.load' (c := 0) ho (Ev.pure' _)
theorem Ev.loadPart {ad : Addr} {q : Option Value} {o : Obj} (ho : s.heap.get? ad = some o) : Ev w 1 (PySem.loadPart ad q) s o s := Ev.load' (c := 0) ho (Ev.pure' _)
theorem Ev.alloc (o : Obj) : Ev w 1 (PySem.alloc o) s s.heap.objs.size { s with heap := s.heap.push o } := Ev.alloc' (c := 0) (Ev.pure' _)
theorem Ev.mkText (x : Str) : Ev w 1 (PySem.mkText x) s (.str x s.toks) { s with toks := s.toks + 1 } := Ev.bind (Ev.fresh' (c := 0) (Ev.pure' _)) (Ev.pure _)
end
end Mine
end
section
open PySem PySem.W PyProof.Rows PySem.Calls
set_option Elab.async false
set_option maxRecDepth 100000
namespace Mine
def hsh (w : World) (x : Str) : Int := if x.cps.isEmpty then 0 else reduceHash (w.params.strHash x.cps)
theorem ev_hash (w : World) (x : Str) (t : Tok) (s : Shared) : Ev w 16 (pyHash (.str x t)) s (hsh w x) { s with toks := s.toks + 1 } := by
  refine byRow2 "special-get-raises" (P := fun w => ∀ (x : Str) (t : Tok) (s : Shared), Ev w 16 (pyHash (.str x t)) s (hsh w x) { s with toks := s.toks + 1 }) ?_ ?_ w x t s <;>
  · intro w x t ⟨h, g, d, k, o⟩ K H gd lv pos
    first
      | exact ⟨5, pos, by decide, by kernel_rfl!⟩
      | exact ⟨6, pos, by decide, by kernel_rfl!⟩
      | exact ⟨7, pos, by decide, by kernel_rfl!⟩
      | exact ⟨8, pos, by decide, by kernel_rfl!⟩
      | exact ⟨9, pos, by decide, by kernel_rfl!⟩
      | exact ⟨10, pos, by decide, by kernel_rfl!⟩
      | exact ⟨11, pos, by decide, by kernel_rfl!⟩
      | exact ⟨12, pos, by decide, by kernel_rfl!⟩
end Mine
namespace Mine
theorem upd_last (h : Heap) (o : Obj) (f : Obj → Obj) : (h.push o).update h.objs.size f = h.push (f o) := by
  obtain ⟨objs, life⟩ := h
  simp only [Heap.push, Heap.update]
  congr 1
  apply Array.ext_getElem?
  intro i
  rw [Array.getElem?_modify, Array.getElem?_push, Array.getElem?_push]
  by_cases hi : i = objs.size
  · subst hi; simp
  · have : ¬ objs.size = i := fun e => hi e.symm
    simp [hi, this]
abbrev setO (es : Array (Int × Value)) (n : Nat) (t : SetTable) : Obj := ⟨.type "set", none, .set es n t, #[]⟩
theorem get_last (h : Heap) (es : Array (Int × Value)) (n : Nat) (t : SetTable) : (h.push (setO es n t)).get? h.objs.size = some (setO es n t) := Heap.get?_push_size _ rfl
section
variable {w : World} {s : Shared} {h : Heap} {es : Array (Int × Value)} {n : Nat} {t : SetTable}
theorem ev_setState (hf : t.fits es.size = true) : Ev w 2 (setState h.objs.size) { s with heap := h.push (setO es n t) } (es, n, t) { s with heap := h.push (setO es n t) } := by
  unfold setState
  refine Ev.bind (Ev.load (get_last h es n t)) ?_
  dsimp only
  have hc : (t.place.size != es.size || decide (t.fill > t.mask)) = false := by
    simp only [SetTable.fits, Bool.and_eq_true, beq_iff_eq, decide_eq_true_eq] at hf
    simp [hf.1, Nat.not_lt.mpr hf.2]
  rw [hc]
  exact Ev.pure _
theorem ev_storeSet (hl : 28 ≤ h.objs.size) {es' : Array (Int × Value)} {t' : SetTable} (hs : es'.size ≤ sizeLine) : Ev w 3 (storeSet h.objs.size es' t') { s with heap := h.push (setO es n t) } () { s with heap := h.push (setO es' (n + 1) t') } := by
  unfold storeSet
  refine Ev.bind (Ev.load (get_last h es n t)) ?_
  dsimp only
  rw [if_neg (Nat.not_lt.mpr hs)]
  have e : (h.push (setO es n t)).update h.objs.size (Obj.putSet es' t') = h.push (setO es' (n + 1) t') := upd_last _ _ _
  refine Ev.update' (c := 1) ?_ ?_ ?_
  · rw [Nat.ble_eq_true_of_le hl]; rfl
  · dsimp only; rw [get_last]; rfl
  · dsimp only; rw [e]; exact Ev.pure' ()
structure SInv (w : World) (xs : List Str) (es : Array (Int × Value)) (t : SetTable) : Prop where
  fits : t.fits es.size = true
  size : es.size = xs.length
  els : ∀ e ∈ es.toList, ∃ x tk, x ∈ xs ∧ e = (hsh w x, Value.str x tk)
  has : ∀ x ∈ xs, ∃ tk, (hsh w x, Value.str x tk) ∈ es.toList

theorem SInv.scan {xs : List Str} {x : Str} {tk : Tok} (I : SInv w xs es t) (hx : x ∉ xs) {hh : Int} {a : Addr} : setScan a (.str x tk) hh true es = pure .absent := by
  have hall : es.all (fun e => isExactStrKey e.2) = true := by
    rw [← Array.all_toList, List.all_eq_true]
    intro e he
    obtain ⟨y, k, _, rfl⟩ := I.els e he
    rfl
  have hn : es.findIdx? (fun e => e.2.isStr x) = none := by
    rw [Array.findIdx?_eq_none_iff]
    intro e he
    obtain ⟨y, k, hy, rfl⟩ := I.els e (Array.mem_toList_iff.mpr he)
    show (y == x) = false
    rw [beq_eq_false_iff_ne]
    rintro rfl
    exact hx hy
  unfold setScan
  dsimp only
  rw [if_pos hall]
  unfold setScanStrs
  rw [hn]
theorem SInv.byScan {xs : List Str} {x : Str} {tk : Tok} (I : SInv w xs es t) (hl : xs.length < 4000) : byScan (.str x tk) es = true := by
  have hall : es.all (fun e => e.2.scannable) = true := by
    rw [← Array.all_toList, List.all_eq_true]
    intro e he
    obtain ⟨y, k, _, rfl⟩ := I.els e he
    rfl
  unfold PySem.byScan
  rw [hall]
  have : es.size < scanBound := by rw [I.size]; unfold scanBound; omega
  simp [Value.scannable, this]
theorem fits_plain {t : SetTable} {n : Nat} {b : Bool} (h : t.fits n = true) : ({ t with plain := b } : SetTable).fits n = true := h

theorem ev_gave {c : Nat} (b : Bool) (k : Unit → Sem α) {a : α} {s s' : Shared} (x : Ev w c (k ()) s a s') : Ev w (c + 1) ((match b with | true => PySem.rule "set.scan.the-table-gave-way" | false => pure ()) >>= k) s a s' := by
  cases b
  · exact Ev.bind (c1 := 1) (Ev.pure ()) x (Nat.le_add_left _ _)
  · exact Ev.bind (Ev.rule _) x (Nat.le_add_left _ _)

theorem ev_add {xs : List Str} {x : Str} {tk : Tok} (hl : 28 ≤ h.objs.size) (I : SInv w xs es t) (hx : x ∉ xs) (hlen : xs.length < 4000) :
    ∃ es' n' t', SInv w (x :: xs) es' t' ∧ Ev w 70 (setAdd h.objs.size (.str x tk)) { s with heap := h.push (setO es n t) } true { s with heap := h.push (setO es' n' t'), toks := s.toks + 1 } := by
  -- the element laid
  have P := layNew_perm t es (hsh w x) (.str x tk)
  have Fi := layNew_fits t es (hsh w x) (.str x tk)
  rcases hL : layNew t es (hsh w x) (.str x tk) with ⟨es1, t1, wd, gave⟩
  rw [hL] at P Fi
  dsimp only at P Fi
  have sz1 : es1.size = xs.length + 1 := by
    have := P.length_eq
    simpa [I.size] using this
  have I1 : ∀ t2 : SetTable, ∀ es2 : Array (Int × Value), List.Perm es2.toList es1.toList → t2.fits es2.size = true → SInv w (x :: xs) es2 t2 := fun t2 es2 p f => by
    refine ⟨f, ?_, fun e he => ?_, fun y hy => ?_⟩
    · have := p.length_eq
      simp only [Array.length_toList] at this
      rw [this, sz1]; rfl
    · have he' := P.mem_iff.mp (p.mem_iff.mp he)
      rw [Array.toList_push, List.mem_append] at he'
      rcases he' with he' | he'
      · obtain ⟨y, k, hy, rfl⟩ := I.els e he'
        exact ⟨y, k, .tail _ hy, rfl⟩
      · rw [List.mem_singleton] at he'
        exact ⟨x, tk, .head _, he'⟩
    · rcases List.mem_cons.mp hy with rfl | hy
      · refine ⟨tk, p.mem_iff.mpr (P.mem_iff.mpr ?_)⟩
        rw [Array.toList_push]
        exact List.mem_append_right _ (.head _)
      · obtain ⟨k, hk⟩ := I.has y hy
        refine ⟨k, p.mem_iff.mpr (P.mem_iff.mpr ?_)⟩
        rw [Array.toList_push]
        exact List.mem_append_left _ hk
  have small : ∀ es2 : Array (Int × Value), List.Perm es2.toList es1.toList → es2.size ≤ sizeLine := fun es2 p => by
    have := p.length_eq
    simp only [Array.length_toList] at this
    rw [this, sz1, sizeLine_eq]; omega
  -- what is stored first, and perhaps laid anew
  let t2 : SetTable := if t1.plain then { t1 with plain := false } else t1
  have f2 : t2.fits es1.size = true := by
    show (if t1.plain = true then ({ t1 with plain := false } : SetTable) else t1).fits es1.size = true
    split
    · exact Fi
    · exact Fi
  have R := relayAll_perm t2 es1 (SetTable.grown es1.size)
  have RF := relayAll_fits t2 es1 (SetTable.grown es1.size)
  have key : ∃ es' n' t', SInv w (x :: xs) es' t' ∧ ∀ (k : Option Bool → Sem Bool) (s' : Shared), Ev w 2 (k (some true)) { s with heap := h.push (setO es' n' t'), toks := s.toks + 1 } true s' →
      Ev w 40 (setAddByScan h.objs.size (.str x tk) (hsh w x) es t >>= k) { s with heap := h.push (setO es n t), toks := s.toks + 1 } true s' := by
    by_cases hr : (!wd && t2.tooFull) = true
    · refine ⟨_, n + 1 + 1, _, I1 _ _ R RF, fun k s' hk => ?_⟩
      refine Ev.bind (c := 40) (c1 := 38) ?_ hk
      unfold setAddByScan
      refine Ev.bind (Ev.rule _) ?_
      rw [I.scan hx]
      refine Ev.bind (c1 := 0) (Ev.pure _) ?_
      dsimp only
      rw [hL]
      refine ev_gave gave _ ?_
      dsimp only
      have hby : ∀ (k2 : Bool → Sem (Option Bool)) (s1 s2 : Shared) (r : Option Bool) (c : Nat), (Ev w c (k2 (!t1.plain)) s1 r s2) → Ev w c (if t1.plain = true then (hashByValue 8 (.str x tk) >>= k2) else (pure true >>= k2)) s1 r s2 := fun k2 s1 s2 r c y => by
        cases hp : t1.plain
        · rw [hp] at y; exact Ev.bind (c1 := 0) (Ev.pure _) y (Nat.zero_le _)
        · rw [hp] at y; exact Ev.bind (c1 := 0) (Ev.pure _) y (Nat.zero_le _)
      refine hby _ _ _ _ _ ?_
      have ht2 : (if (!t1.plain) = true then t1 else { t1 with plain := false }) = t2 := by
        show _ = (if t1.plain = true then ({ t1 with plain := false } : SetTable) else t1)
        cases t1.plain <;> rfl
      rw [ht2]
      refine Ev.bind (c1 := 3) (ev_storeSet (s := { s with toks := s.toks + 1 }) hl (small _ .rfl)) ?_
      rw [if_pos hr]
      rcases hRL : relayAll t2 es1 (SetTable.grown es1.size) with ⟨es3, t3, gave3⟩
      rw [hRL] at R
      dsimp only at R ⊢
      refine ev_gave gave3 _ ?_
      exact Ev.bind (c1 := 3) (ev_storeSet (s := { s with toks := s.toks + 1 }) hl (small _ R)) (Ev.pure _)
    · refine ⟨_, n + 1, _, I1 _ _ .rfl f2, fun k s' hk => ?_⟩
      refine Ev.bind (c := 40) (c1 := 38) ?_ hk
      unfold setAddByScan
      refine Ev.bind (Ev.rule _) ?_
      rw [I.scan hx]
      refine Ev.bind (c1 := 0) (Ev.pure _) ?_
      dsimp only
      rw [hL]
      refine ev_gave gave _ ?_
      dsimp only
      have hby : ∀ (k2 : Bool → Sem (Option Bool)) (s1 s2 : Shared) (r : Option Bool) (c : Nat), (Ev w c (k2 (!t1.plain)) s1 r s2) → Ev w c (if t1.plain = true then (hashByValue 8 (.str x tk) >>= k2) else (pure true >>= k2)) s1 r s2 := fun k2 s1 s2 r c y => by
        cases hp : t1.plain
        · rw [hp] at y; exact Ev.bind (c1 := 0) (Ev.pure _) y (Nat.zero_le _)
        · rw [hp] at y; exact Ev.bind (c1 := 0) (Ev.pure _) y (Nat.zero_le _)
      refine hby _ _ _ _ _ ?_
      have ht2 : (if (!t1.plain) = true then t1 else { t1 with plain := false }) = t2 := by
        show _ = (if t1.plain = true then ({ t1 with plain := false } : SetTable) else t1)
        cases t1.plain <;> rfl
      rw [ht2]
      refine Ev.bind (c1 := 3) (ev_storeSet (s := { s with toks := s.toks + 1 }) hl (small _ .rfl)) ?_
      rw [if_neg hr]
      exact Ev.pure _
  obtain ⟨es', n', t', I', kk⟩ := key
  refine ⟨es', n', t', I', ?_⟩
  unfold setAdd
  refine Ev.holding ?_
  refine Ev.bind (ev_hash w x tk _) ?_
  unfold setAddHashed
  refine Ev.holding ?_
  rw [show (100000 : Nat) = 99999 + 1 from rfl]
  unfold setAddHashedIn
  refine Ev.bind (ev_setState (s := { s with toks := s.toks + 1 }) I.fits) ?_
  dsimp only
  rw [if_pos (I.byScan hlen)]
  exact Ev.le (by decide) (kk _ _ (Ev.pure _))
end
end Mine
end
section
open PySem PySem.W PyProof.Rows PySem.Calls
set_option Elab.async false
set_option maxRecDepth 100000
namespace Mine
def EvX (w : World) (c : Nat) {α : Type} (t : Sem α) (s : Shared) (a : α) (P : Shared → Prop) : Prop := ∃ s', P s' ∧ Ev w c t s a s'
section
variable {w : World} {c c1 : Nat} {α β : Type} {s s' s1 : Shared} {a : α} {b : β} {P : Shared → Prop}
theorem EvX.of {t : Sem α} (x : Ev w c t s a s') (p : P s') : EvX w c t s a P := ⟨s', p, x⟩
theorem EvX.bind {m : Sem α} {f : α → Sem β} (x : EvX w c1 m s a fun s1 => EvX w (c - c1) (f a) s1 b P) (hc : c1 ≤ c := by first | decide | omega) : EvX w c (m >>= f) s b P := by
  obtain ⟨s1, ⟨s2, p, y⟩, e⟩ := x
  exact ⟨s2, p, Ev.bind e y hc⟩
theorem EvX.then_ {m : Sem α} {f : α → Sem β} (x : Ev w c1 m s a s1) (y : EvX w (c - c1) (f a) s1 b P) (hc : c1 ≤ c := by first | decide | omega) : EvX w c (m >>= f) s b P := EvX.bind ⟨s1, y, x⟩ hc
theorem EvX.holding {m : Sem α} {vs : List Value} (x : EvX w c m s a P) : EvX w c (PySem.holding vs m) s a P := by
  obtain ⟨s1, p, e⟩ := x
  exact ⟨s1, p, Ev.holding e⟩
theorem EvX.mono {P' : Shared → Prop} {t : Sem α} (x : EvX w c t s a P) (h : ∀ s, P s → P' s) : EvX w c t s a P' := by
  obtain ⟨s1, p, e⟩ := x
  exact ⟨s1, h _ p, e⟩
theorem EvX.le {t : Sem α} (hc : c1 ≤ c) (x : EvX w c1 t s a P) : EvX w c t s a P := by
  obtain ⟨s1, p, e⟩ := x
  exact ⟨s1, p, Ev.le hc e⟩
theorem EvX.forIn {f : β → PUnit → Sem (ForInStep PUnit)} (I : List β → Shared → Prop) (stp : ∀ x rest s, I (x :: rest) s → EvX w c (f x ⟨⟩) s (.yield ⟨⟩) (I rest)) :
    ∀ (l : List β) (s : Shared), I l s → EvX w (c * l.length) (ForIn.forIn l PUnit.unit f) s ⟨⟩ (I [])
  | [], s, h => EvX.of (Ev.pure _) h
  | x :: r, s, h => by
    rw [List.forIn_cons]
    refine EvX.bind (c1 := c) ((stp x r s h).mono fun s1 h1 => ?_) (by rw [List.length_cons, Nat.mul_succ]; exact Nat.le_add_left _ _)
    rw [List.length_cons, Nat.mul_succ, Nat.add_sub_cancel]
    exact EvX.forIn I stp r s1 h1
end

def st4 : Stmt := ((behindTheImports PW)[3]?).getD (.Pass p0)
def sElts : List Expr := match st4 with | .Assign _ (.Set e _ _) _ => e | _ => []
def sStrs : List (Str × Pos) := sElts.filterMap fun e => match e with | .Constant (.str x) _ p => some (x, p) | _ => none
def mkC (p : Str × Pos) : Expr := .Constant (.str p.1) 0 p.2
abbrev nmS : Str := Str.ofString "NON_PCT_ENCODED"
def pS : Pos := ⟨9, 18, 9, 438⟩
theorem st4_eq : st4 = .Assign [.Name nmS ⟨9, 0, 9, 15⟩] (.Set sElts 0 pS) ⟨9, 0, 9, 438⟩ := by kernel_rfl
theorem sElts_eq : sElts = sStrs.map mkC := by kernel_rfl
theorem sStrs_len : sStrs.length = 84 := by decide +kernel
theorem sStrs_nodup : (sStrs.map (·.1)).Nodup := by decide +kernel
theorem road_eq : displayRoad 0 sElts = .unsure := by decide +kernel
theorem starEach_eq (env : Env) : ∀ l : List (Str × Pos), starEach (l.map mkC) env = l.map fun p => (false, mkText p.1)
  | [] => rfl
  | p :: r => by
    show (false, eval (mkC p) env) :: starEach (r.map mkC) env = _
    rw [starEach_eq env r]; rfl

theorem newSet_eq : newSet (.type "set") = (do
    let st ← ask
    let a ← alloc (setO #[] 0 (SetTable.fresh 0 0 (!st.params.followText "set-order")))
    pure (.ref a)) := by kernel_rfl

def sInv (w : World) (s0 : Shared) (h : Heap) (l : List (Str × Pos)) (s : Shared) : Prop :=
  ∃ pre, pre ++ l = sStrs ∧ ∃ es n t, SInv w (pre.map (·.1)).reverse es t ∧ s = { s0 with heap := h.push (setO es n t), toks := s0.toks + 2 * pre.length }

theorem ev_display {w : World} {s0 : Shared} {b : Bool} (hl : 28 ≤ s0.heap.objs.size) :
    EvX w 6800 (setDisplay .unsure b ((starEach sElts envE).map fun x => (x.1, do let v ← x.2; standAt pS; pure v))) s0 (.ref s0.heap.objs.size) (sInv w s0 s0.heap []) := by
  rw [sElts_eq, starEach_eq, List.map_map]
  unfold setDisplay
  rw [if_neg (by decide)]
  rw [newSet_eq]
  refine EvX.then_ (c1 := 2) (Ev.bind Ev.ask (Ev.bind (Ev.alloc _) (Ev.pure _))) ?_
  dsimp only
  have h30 : (List.map ((fun x : Bool × Sem Value => (x.1, do let v ← x.2; standAt pS; pure v)) ∘ fun p : Str × Pos => (false, mkText p.1)) sStrs).length > 30 := by
    rw [List.length_map, sStrs_len]; decide
  rw [if_pos h30]
  refine EvX.bind (c1 := 6798) (EvX.holding (a := ()) ?_)
  rw [List.take_zero, List.map_nil]
  refine EvX.then_ (c1 := 0) (a := []) (Ev.pure _) ?_
  refine EvX.bind (c1 := 30) (a := ()) (EvX.holding ?_)
  rw [List.forIn_nil]
  refine EvX.then_ (c1 := 0) (Ev.pure _) ?_
  rw [if_pos (by decide)]
  refine EvX.then_ (Ev.rule _) ?_
  unfold setUnled
  refine EvX.then_ (ev_setState (s := s0) rfl) ?_
  refine EvX.of (Ev.le (by decide) (ev_storeSet (s := s0) hl (by decide))) ?_
  rw [List.drop_zero]
  refine EvX.bind (c1 := 80 * sStrs.length) (a := ⟨⟩) ?_ (by rw [sStrs_len]; decide)
  refine EvX.mono (P := sInv w s0 s0.heap []) ?_ ?_
  · have go := EvX.forIn (w := w) (c := 80) (β := Str × Pos) (f := fun p _ => do
        let v ← (do let v ← mkText p.1; standAt pS; pure v)
        let _ ← PySem.holding [v] (setAdd s0.heap.objs.size v)
        pure (ForInStep.yield PUnit.unit)) (sInv w s0 s0.heap) (fun p rest s ⟨pre, hp, es, n, t, I, hs⟩ => by
      subst hs
      refine EvX.then_ (c1 := 3) (Ev.bind (Ev.mkText _) (Ev.bind (Ev.standAt _) (Ev.pure _))) ?_
      have hnot : p.1 ∉ (pre.map (·.1)).reverse := by
        have nd := sStrs_nodup
        rw [← hp, List.map_append, List.map_cons, List.nodup_append] at nd
        intro hm
        exact nd.2.2 p.1 (List.mem_reverse.mp hm) p.1 (.head _) rfl
      have hle : (pre.map (·.1)).reverse.length < 4000 := by
        have := congrArg List.length hp
        rw [List.length_append, sStrs_len] at this
        rw [List.length_reverse, List.length_map]; omega
      obtain ⟨es', n', t', I', e⟩ := ev_add (s := { s0 with toks := s0.toks + 2 * pre.length + 1 }) (tk := s0.toks + 2 * pre.length) (n := n) hl I hnot hle
      refine EvX.then_ (Ev.holding e) ?_
      refine EvX.of (Ev.pure _) ?_
      refine ⟨pre ++ [p], by rw [List.append_assoc]; exact hp, es', n', t', ?_, ?_⟩
      · rw [List.map_append, List.reverse_append]; exact I'
      · rw [List.length_append]
        show Shared.mk _ _ _ _ _ = Shared.mk _ _ _ _ _
        congr 1) sStrs
    rw [List.forIn_map]
    refine go _ ⟨[], rfl, #[], 0 + 1, _, ?_, rfl⟩
    exact ⟨rfl, rfl, fun e he => absurd he List.not_mem_nil, fun x hx => absurd hx List.not_mem_nil⟩
  · intro s hs
    exact EvX.of (Ev.pure _) (EvX.of (Ev.pure _) hs)
end Mine
end
section
open PySem PySem.W PyProof.Rows PySem.Calls
set_option Elab.async false
set_option maxRecDepth 100000
namespace Mine
/-- the run up to the set display: all that is looked up in it, in one reckoning -/
theorem bigC (w : World) (K : Bool → Sem Fin) (H : Value → Sem Fin) (gd : Bool → Bool) (lv : List Value → List Value) (pos : Pos) :
   (fencedOpening treeTable PW w 12000, topGo treeTable PW w 28 ann0 12 (s0 w) (topStub PW), segRun treeTable PW w 28 ann0 1 1 (sA w) (blockOf (behindTheImports PW) envE cE p0 [topFrame p0]),
    segRun treeTable PW w 28 ann0 1 80 (sB w) (piecesOf l1 envE cE p0 [topFrame p0]), ((sC w).heap.objs.size, (sC w).toks), segGo treeTable PW w 28 ann0 1 2 (sC w) ⟨(inMainModule envE).wrap K H gd lv, cE, pos, tF⟩,
    ((sC w).heap.get? mainNs).bind (fun o => match o.data with | .dict es _ => some (aRefKeyMayBeTheName nmS es) | _ => none)) =
   (some (s0 w), some (sA w, ⟨denote treeTable cE, cE, p0, [topFrame p0]⟩), some (.next, sB w, cE, p0), some (.next, sC w, cE, p1), (48, 302), some (sC w, ⟨K true, cE, pos, tF⟩), some false) := by kernel_rfl
theorem bigC' (w : World) : ((fencedOpening treeTable PW w 12000 = some (s0 w) ∧ topGo treeTable PW w 28 ann0 12 (s0 w) (topStub PW) = some (sA w, ⟨denote treeTable cE, cE, p0, [topFrame p0]⟩)) ∧
    (segRun treeTable PW w 28 ann0 1 1 (sA w) (blockOf (behindTheImports PW) envE cE p0 [topFrame p0]) = some (.next, sB w, cE, p0) ∧ segRun treeTable PW w 28 ann0 1 80 (sB w) (piecesOf l1 envE cE p0 [topFrame p0]) = some (.next, sC w, cE, p1))) ∧
    ((sC w).heap.objs.size = 48 ∧ (sC w).toks = 302) ∧ ((sC w).heap.get? mainNs).bind (fun o => match o.data with | .dict es _ => some (aRefKeyMayBeTheName nmS es) | _ => none) = some false := by
  have e := bigC w (fun _ => deadEnd .none) deadEnd id id p0
  obtain ⟨e1, e⟩ := Prod.mk.inj e
  obtain ⟨e2, e⟩ := Prod.mk.inj e
  obtain ⟨e3, e⟩ := Prod.mk.inj e
  obtain ⟨e4, e⟩ := Prod.mk.inj e
  obtain ⟨e5, e⟩ := Prod.mk.inj e
  obtain ⟨e6, e7⟩ := Prod.mk.inj e
  exact ⟨⟨⟨e1, e2⟩, e3, e4⟩, Prod.mk.inj e5, e7⟩
theorem s0_eq (w : World) : fencedOpening treeTable PW w 12000 = some (s0 w) := (bigC' w).1.1.1
theorem sA_eq (w : World) : topGo treeTable PW w 28 ann0 12 (s0 w) (topStub PW) = some (sA w, ⟨denote treeTable cE, cE, p0, [topFrame p0]⟩) := (bigC' w).1.1.2
theorem sB_eq (w : World) : segRun treeTable PW w 28 ann0 1 1 (sA w) (blockOf (behindTheImports PW) envE cE p0 [topFrame p0]) = some (.next, sB w, cE, p0) := (bigC' w).1.2.1
theorem sC_eq (w : World) : segRun treeTable PW w 28 ann0 1 80 (sB w) (piecesOf l1 envE cE p0 [topFrame p0]) = some (.next, sC w, cE, p1) := (bigC' w).1.2.2
theorem sC_size (w : World) : (sC w).heap.objs.size = 48 := (bigC' w).2.1.1
theorem sC_toks (w : World) : (sC w).toks = 302 := (bigC' w).2.1.2
def Sd (w : World) (S : Shared) (o : Obj) : Shared := { S with heap := (S.heap.push o).update mainNs (Obj.putName nmS (hsh w nmS) (.str nmS 470) (.ref 48)), toks := 471 }
theorem ev_main (w : World) : ∃ b, Ev w 4 (inMainModule envE) (sC w) b (sC w) := by
  refine ⟨true, fun K H gd lv pos => ⟨2, pos, by decide, ?_⟩⟩
  have e := bigC w K H gd lv pos
  obtain ⟨_, e⟩ := Prod.mk.inj e
  obtain ⟨_, e⟩ := Prod.mk.inj e
  obtain ⟨_, e⟩ := Prod.mk.inj e
  obtain ⟨_, e⟩ := Prod.mk.inj e
  obtain ⟨_, e⟩ := Prod.mk.inj e
  exact (Prod.mk.inj e).1
theorem sC_main (w : World) : ((sC w).heap.get? mainNs).bind (fun o => match o.data with | .dict es _ => some (aRefKeyMayBeTheName nmS es) | _ => none) = some false := (bigC' w).2.2
theorem storeName_main (v : Value) : storeName envE nmS v = nsSet mainNs nmS v := by kernel_rfl
theorem strHash_eq (x : Str) : strHash x = (do let w ← ask; pure (if x.cps.isEmpty then 0 else reduceHash (w.params.strHash x.cps))) := rfl
theorem st4_run_of (w : World) (S : Shared) (b : Bool) (hsz : S.heap.objs.size = 48) (htk : S.toks = 302) (hb : Ev w 4 (inMainModule envE) S b S)
    (hm : (S.heap.get? mainNs).bind (fun o => match o.data with | .dict es _ => some (aRefKeyMayBeTheName nmS es) | _ => none) = some false) :
    ∃ es n t N pos', N ≤ 6901 ∧ SInv w (sStrs.map (·.1)).reverse es t ∧
    segRun treeTable PW w 28 ann0 1 N S (pieceOf st4 envE cE p1 tF) = some (.next, Sd w S (setO es n t), cE, pos') := by
  have hl : 28 ≤ S.heap.objs.size := by rw [hsz]; decide
  obtain ⟨s1, ⟨pre, hpre, es, n, t, I, hs1⟩, e1⟩ := ev_display (w := w) (s0 := S) (b := b) hl
  rw [List.append_nil] at hpre
  subst hpre
  have ts : S.toks + 2 * sStrs.length = 470 := by rw [htk, sStrs_len]
  rw [ts] at hs1
  have e : Ev w 6900 (exec st4 envE) S .next (Sd w S (setO es n t)) := by
    rw [st4_eq]
    refine Ev.bind (Ev.standAt _) ?_
    refine Ev.bind (c1 := 0) (a := false) (Ev.pure' _) ?_
    rw [if_neg (by decide)]
    refine Ev.bind (c1 := 6850) (a := Value.ref 48) (s1 := s1) ?_ ?_
    · show Ev w 6850 (do standAt pS; setDisplay (displayRoad 0 sElts) (← inMainModule envE) _) _ _ _
      refine Ev.bind (Ev.standAt _) ?_
      refine Ev.bind hb ?_
      rw [road_eq]
      rw [hsz] at e1
      exact Ev.le (by decide) e1
    · refine Ev.bind (c1 := 0) (a := none) (Ev.pure' _) ?_
      show Ev w 49 (do assignAll (.ref 48) _; pure Flow.next) _ _ _
      refine Ev.bind (c1 := 40) (a := ()) (s1 := Sd w S (setO es n t)) ?_ (Ev.pure _)
      show Ev w 40 (do standAt _; bindName envE nmS (.ref 48)) _ _ _
      refine Ev.bind (Ev.standAt _) ?_
      unfold bindName
      refine Ev.bind (c1 := 1) (Ev.holding Ev.point) ?_
      refine Ev.bind (c1 := 30) (a := ()) ?_ (Ev.le (by decide) Ev.point)
      rw [storeName_main]
      unfold nsSet
      refine Ev.bind (c1 := 2) (a := hsh w nmS) (Ev.bind Ev.ask (Ev.pure _)) ?_
      subst hs1
      refine Ev.bind (Ev.mkText _) ?_
      cases hg : S.heap.get? mainNs with
      | none => rw [hg] at hm; cases hm
      | some o =>
        rw [hg] at hm
        have hg2 : (S.heap.push (setO es n t)).get? mainNs = some o := Heap.get?_push_of_some _ hg
        refine Ev.bind (Ev.loadPart (o := o) hg2) ?_
        obtain ⟨oc, od, odt, osl⟩ := o
        cases odt with
        | dict des dn =>
          dsimp only [Option.bind] at hm ⊢
          rw [if_neg (by rw [show aRefKeyMayBeTheName nmS des = false from Option.some.inj hm]; decide)]
          refine Ev.update' (by decide) ?_ (Ev.pure' _)
          dsimp only
          rw [hg2]; rfl
        | _ => cases hm
  obtain ⟨N, pos', hNb, hN⟩ := e doneF deadEnd id id p1
  exact ⟨es, n, t, N + 1, pos', Nat.succ_le_succ hNb, I, seg_go hN rfl⟩
theorem st4_run (w : World) : ∃ es n t N pos', N ≤ 6901 ∧ SInv w (sStrs.map (·.1)).reverse es t ∧
    segRun treeTable PW w 28 ann0 1 N (sC w) (pieceOf st4 envE cE p1 tF) = some (.next, Sd w (sC w) (setO es n t), cE, pos') := by
  obtain ⟨b, hb⟩ := ev_main w
  exact st4_run_of w (sC w) b (sC_size w) (sC_toks w) hb (sC_main w)
end Mine
end
section
open PySem PySem.W PyProof.Rows PySem.Calls
set_option Elab.async false
set_option maxRecDepth 100000
namespace Mine
def rest5 : List Stmt := (behindTheImports PW).drop 4
def sF (w : World) (o : Obj) (p : Pos) : Shared := (topRun treeTable PW w 28 ann0 600 (Sd w (sC w) o) (restOf rest5 envE cE p tF)).getD dS
end Mine
end
section
open PySem PySem.W PyProof.Rows PySem.Calls
set_option Elab.async false
set_option maxRecDepth 100000
namespace Mine
def vq : Program := { PW with main := { PW.main with body := PW.main.body.drop 17 } }
def vl : List Str := [Str.ofString "_sre", Str.ofString "to_str", Str.ofString "to_bytes", Str.ofString "NON_PCT_ENCODED", Str.ofString "PERCENT_MATCHER", Str.ofString "encode_component", Str.ofString "_law_usual", Str.ofString "_law_kept", Str.ofString "_law_digits", Str.ofString "_law_hexes", Str.ofString "_law_octets", Str.ofString "_law_begun", Str.ofString "_law_coded", Str.ofString "_law_piece"]
def vX : Shared → Bool := fun s => recOk [] s
end Mine
end
section
open PySem PySem.W PyProof.Rows PySem.Calls
set_option Elab.async false
set_option maxRecDepth 100000
namespace Mine
def strOf (i : Nat) : Str := match PW.main.body[i]? with | some (.Assign _ (.Constant (.str x) _ _) _) => x | _ => Str.empty
def keptS : Str := strOf 10
def digS : Str := strOf 11
def hexS : Str := strOf 12
def fnd (i : Nat) (c : Addr) (dv pm : Value) : FuncData := match PW.main.body[i]? with
  | some (.FunctionDef name args body _ _ _ scope _ _ _) => { name := name, qualname := name, params := args, body := .stmts body, scope := scope, globals := mainGlobals, closure := [], defaults := dv, kwdefaults := .none, doc := .none, pyModule := pm, annotations := none, code := .ref c, closureTuple := .none, builtins := builtinsNs }
  | _ => { name := Str.empty, qualname := Str.empty, params := ⟨[], [], none, [], [], none, []⟩, body := .stmts [], scope := PW.main.scope, globals := 0, closure := [], defaults := dv, kwdefaults := .none, pyModule := pm, code := .ref c }
abbrev fnO (i : Nat) (c : Addr) (dv pm : Value) : Obj := ⟨.type "function", none, .func (fnd i c dv pm), #[]⟩
def fnTab : List (Addr × Obj) := [(39, fnO 2 38 (.ref 32) (.str (strOf 1) 282)), (47, fnO 3 46 (.ref 40) (.str (strOf 1) 282)), (60, fnO 7 59 .none (.str (strOf 5) 471)), (67, fnO 9 66 .none (.str (strOf 8) 523)),
  (74, fnO 13 73 .none (.str (strOf 8) 523)), (81, fnO 14 80 .none (.str (strOf 8) 523)), (88, fnO 15 87 .none (.str (strOf 8) 523)), (95, fnO 16 94 .none (.str (strOf 8) 523))]
def nmOf (i : Nat) : Str := match PW.main.body[i]? with | some (.FunctionDef name ..) => name | _ => Str.empty
def codeTab : List (Addr × Str) := [(38, nmOf 2), (46, nmOf 3), (59, nmOf 7), (66, nmOf 9), (73, nmOf 13), (80, nmOf 14), (87, nmOf 15), (94, nmOf 16)]
def codeName (h : Heap) (c : Addr) : Option Str := match h.get? c with
  | some o => (match o.data with | Data.fields vs => (match vs[1]? with | some (Value.str q _) => some q | _ => none) | _ => none)
  | none => none
theorem codeRec_of_name {h : Heap} {c : Addr} {q : Str} (e : codeName h c = some q) : h.CodeRec (.ref c) q := by
  unfold codeName at e
  split at e
  · rename_i o ho
    split at e
    · rename_i vs hd
      split at e
      · rename_i q' t hv
        cases e
        exact ⟨c, o, vs, t, rfl, ho, hd, hv⟩
      · cases e
    · cases e
  · cases e
def gNames : List Str := [nmOf 2, nmOf 3, nmS, Str.ofString "PERCENT_MATCHER", nmOf 7, nmOf 9, nmOf 13, nmOf 14, nmOf 15, nmOf 16, Str.ofString "_law_kept", Str.ofString "_law_digits", Str.ofString "_law_hexes"]
def gVals : List (Option Value) := [some (.ref 39), some (.ref 47), some (.ref 48), some (.ref 53), some (.ref 60), some (.ref 67), some (.ref 74), some (.ref 81), some (.ref 88), some (.ref 95), some (.str keptS 531), some (.str digS 533), some (.str hexS 535)]
def bNames : List Str := [Str.ofString "len", Str.ofString "range", Str.ofString "chr", Str.ofString "ord", Str.ofString "hasattr", Str.ofString "isinstance", Str.ofString "bytes", Str.ofString "bytearray", Str.ofString "enumerate", Str.ofString "str"]
def bVals : List (Option Value) := [some (.builtin "len"), some (.type "range"), some (.builtin "chr"), some (.builtin "ord"), some (.builtin "hasattr"), some (.builtin "isinstance"), some (.type "bytes"), some (.type "bytearray"), some (.type "enumerate"), some (.type "str")]
def reWords : List Int := match PW.main.body[(6:Nat)]? with
  | some (Stmt.Assign _ (Expr.Call _ (_ :: _ :: Expr.List es _ :: _) _ _) _) => es.filterMap fun e => match e with | Expr.Constant (Const.int i) _ _ => some i | _ => none
  | _ => []
def patS : Str := match PW.main.body[(6:Nat)]? with
  | some (Stmt.Assign _ (Expr.Call _ (Expr.Constant (Const.str x) _ _ :: _) _ _) _) => x
  | _ => Str.empty
abbrev utfTup (t : Tok) : Obj := ⟨.type "tuple", none, .seq #[.str (Str.ofString "utf-8") t] 0, #[]⟩
def objTab : List (Addr × Obj) := fnTab ++ [(32, utfTup 284), (40, utfTup 293), (53, ⟨.type "re.Pattern", none, .fields #[.str patS 474, .int 32 506, .int 0 0, .none, .none, .ref 52, .int 0 0], #[]⟩),
  (52, ⟨.type "tuple", none, .seq (reWords.map rawInt).toArray 0, #[]⟩)]
abbrev obsOf (h : Heap) := (h.isNs mainGlobals && h.isNs builtinsNs && h.isNs cStatics, gNames.map (h.nsMap mainGlobals), bNames.map (h.nsMap mainGlobals), bNames.map (h.nsMap builtinsNs), h.nsMap cStatics "sys.recursionlimit", objTab.map (fun x => h.get? x.1), codeTab.map (fun x => codeName h x.1))
/-- the run behind the set display: all that is looked up in it, in one reckoning -/
theorem bigF (w : World) (o : Obj) (p : Pos) : (topRun treeTable PW w 28 ann0 600 (Sd w (sC w) o) (restOf rest5 envE cE p tF), ((sF w o p).heap.objs.size, (sF w o p).toks, (sF w o p).heap.objs[48]?), openSeen vq vl (importedModules PW.main.body) vX true (sF w o p),
   ((s0 w).heap.isNs mainGlobals && (s0 w).gens.size == 0, (s0 w).heap.objs.size, (s0 w).heap.nsMap mainGlobals "__annotations__", staticsOk (importedModules PW.main.body) (s0 w).heap (sF w o p).heap && namesBound PW (sF w o p).heap && gensDone (sF w o p) && laidKept (s0 w).heap (sF w o p).heap), obsOf (sF w o p).heap) =
   (some (sF w o p), (101, 582, some o), openGood vq vl, (true, 28, ann0, true), (true, gVals, bNames.map (fun _ => none), bVals, none, objTab.map (fun x => some x.2), codeTab.map fun x => some x.2)) := by kernel_rfl
theorem sF_eq (w : World) (o : Obj) (p : Pos) : topRun treeTable PW w 28 ann0 600 (Sd w (sC w) o) (restOf rest5 envE cE p tF) = some (sF w o p) := (Prod.mk.inj (bigF w o p)).1
theorem sF_sz (w : World) (o : Obj) (p : Pos) : ((sF w o p).heap.objs.size, (sF w o p).toks, (sF w o p).heap.objs[48]?) = (101, 582, some o) := (Prod.mk.inj (Prod.mk.inj (bigF w o p)).2).1
theorem see (w : World) (o : Obj) (p : Pos) : openSeen vq vl (importedModules PW.main.body) vX true (sF w o p) = openGood vq vl := (Prod.mk.inj (Prod.mk.inj (Prod.mk.inj (bigF w o p)).2).2).1
theorem see2 (w : World) (o : Obj) (p : Pos) : ((s0 w).heap.isNs mainGlobals && (s0 w).gens.size == 0, (s0 w).heap.objs.size, (s0 w).heap.nsMap mainGlobals "__annotations__", staticsOk (importedModules PW.main.body) (s0 w).heap (sF w o p).heap && namesBound PW (sF w o p).heap && gensDone (sF w o p) && laidKept (s0 w).heap (sF w o p).heap) = (true, 28, ann0, true) := (Prod.mk.inj (Prod.mk.inj (Prod.mk.inj (Prod.mk.inj (bigF w o p)).2).2).2).1
theorem obs (w : World) (o : Obj) (p : Pos) : obsOf (sF w o p).heap = (true, gVals, bNames.map (fun _ => none), bVals, none, objTab.map (fun x => some x.2), codeTab.map fun x => some x.2) := (Prod.mk.inj (Prod.mk.inj (Prod.mk.inj (Prod.mk.inj (bigF w o p)).2).2).2).2
theorem obs48 (w : World) (o : Obj) (p : Pos) : (sF w o p).heap.objs[48]? = some o := by
  have h := sF_sz w o p
  rw [Prod.mk.injEq, Prod.mk.injEq] at h
  exact h.2.2
structure TF (h : Heap) : Prop where
  glob : ∃ mg, h.Ns mainGlobals mg ∧ gNames.map mg = gVals ∧ ∀ x ∈ bNames, mg x = none
  blt : ∃ mb, h.Ns builtinsNs mb ∧ bNames.map mb = bVals
  lim : h.NoLimit
  objs : ∀ x ∈ objTab, h.get? x.1 = some x.2
  codes : ∀ x ∈ codeTab, h.CodeRec (.ref x.1) x.2
  set : ∃ es n t, h.get? 48 = some (setO es n t) ∧ t.fits es.size = true ∧ es.size = 84 ∧ (∀ e ∈ es.toList, ∃ x tk, x ∈ sStrs.map (·.1) ∧ e.2 = Value.str x tk) ∧ (∀ x ∈ sStrs.map (·.1), ∃ hh tk, (hh, Value.str x tk) ∈ es.toList)
theorem TF.keeps {h h' : Heap} (T : TF h) (k : ∀ b o, h.get? b = some o → h'.get? b = some o) : TF h' := by
  obtain ⟨mg, g1, g2, g3⟩ := T.glob
  obtain ⟨mb, b1, b2⟩ := T.blt
  obtain ⟨mc, c1, c2⟩ := T.lim
  obtain ⟨es, n, t, s1, s2⟩ := T.set
  exact ⟨⟨mg, g1.keeps k, g2, g3⟩, ⟨mb, b1.keeps k, b2⟩, ⟨mc, c1.keeps k, c2⟩, fun x hx => k _ _ (T.objs x hx), fun x hx => (T.codes x hx).keeps k, ⟨es, n, t, k _ _ s1, s2⟩⟩
theorem map_eq_mem {α β : Type} {f g : α → β} : ∀ {l : List α}, l.map f = l.map g → ∀ x ∈ l, f x = g x
  | _ :: _, e, _, .head _ => (List.cons.inj e).1
  | _ :: _, e, x, .tail _ m => map_eq_mem (List.cons.inj e).2 x m
theorem tf_of {w : World} {h : Heap} {es : Array (Int × Value)} {n : Nat} {t : SetTable} (e : obsOf h = (true, gVals, bNames.map (fun _ => none), bVals, none, objTab.map (fun x => some x.2), codeTab.map fun x => some x.2)) (e48 : h.objs[48]? = some (setO es n t)) (I : SInv w (sStrs.map (·.1)).reverse es t) : TF h := by
  unfold obsOf at e
  simp only [Prod.mk.injEq] at e
  obtain ⟨a1, a2, a3, a4, a5, a6, a7⟩ := e
  rw [Bool.and_eq_true, Bool.and_eq_true] at a1
  refine ⟨⟨_, Heap.Ns.of_isNs a1.1.1, a2, map_eq_mem a3⟩, ⟨_, Heap.Ns.of_isNs a1.1.2, a4⟩, ⟨_, Heap.Ns.of_isNs a1.2, a5⟩, map_eq_mem a6, fun x hx => codeRec_of_name (map_eq_mem a7 x hx), es, n, t, ?_, I.fits, ?_, fun x hx => ?_, fun x hx => ?_⟩
  · exact Heap.get?_some_iff.mpr ⟨e48, rfl⟩
  · rw [I.size, List.length_reverse, List.length_map, sStrs_len]
  · obtain ⟨y, k, hy, e⟩ := I.els x hx
    exact ⟨y, k, List.mem_reverse.mp hy, by rw [e]⟩
  · obtain ⟨k, hk⟩ := I.has x (List.mem_reverse.mpr hx)
    exact ⟨_, k, hk⟩
theorem ends_of {w : World} {S0 SF : Shared} {N M : Nat} (h1 : fencedOpening treeTable PW w N = some S0) (h2 : (S0.heap.isNs mainGlobals && S0.gens.size == 0) = true) (h3 : S0.heap.objs.size = 28) (h4 : S0.heap.nsMap mainGlobals "__annotations__" = ann0)
    (h5 : topRun treeTable PW w 28 ann0 M S0 (topStub PW) = some SF) (hM : M ≤ N) (h6 : (staticsOk (importedModules PW.main.body) S0.heap SF.heap && namesBound PW SF.heap && gensDone SF && laidKept S0.heap SF.heap) = true) : openEnds treeTable PW w N = some SF := by
  have r := topRun_mono (N - M) _ _ _ _ h5
  rw [show M + (N - M) = N by omega] at r
  unfold openEnds
  rw [h1]
  show topFrom treeTable PW w N S0 = some SF
  unfold topFrom
  rw [h2, h3, h4, r]
  show (match staticsOk (importedModules PW.main.body) S0.heap SF.heap && namesBound PW SF.heap && gensDone SF && laidKept S0.heap SF.heap with | true => some SF | false => none) = some SF
  rw [h6]
theorem left_of {w : World} {SF : Shared} {N : Nat} (h : openEnds treeTable PW w N = some SF) (h1 : openSeen vq vl (importedModules PW.main.body) vX true SF = openGood vq vl) (h2 : TF SF.heap) :
    (openEnds treeTable PW w N).map (fun s => (openSeen vq vl (importedModules PW.main.body) vX true s, TF s.heap)) = some (openGood vq vl, True) := by
  rw [h]
  show some (_, _) = some (_, _)
  rw [h1, eq_true h2]
theorem left : LeftO PW vq vl vX (fun s => TF s.heap) (fun _ => True) 12000 := fun w => by
  obtain ⟨es, n, t, N, pos', hN, I, hrun⟩ := st4_run w
  have r5 := sF_eq w (setO es n t) pos'
  have r4 := piece_cons (q := p0) hrun r5
  have r3 := piece_app (q := p0) (sC_eq w) r4
  have r2 := piece_block (q := p0) (sB_eq w) r3
  have r1 := go_top (sA_eq w) r2
  have s2 := see2 w (setO es n t) pos'
  rw [Prod.mk.injEq, Prod.mk.injEq, Prod.mk.injEq] at s2
  exact left_of (ends_of (s0_eq w) s2.1 s2.2.1 s2.2.2.1 r1 (by omega) s2.2.2.2) (see w _ _) (tf_of (obs w _ _) (obs48 w _ _) I)
end Mine
end
section
open PySem PySem.W PyProof.Rows PySem.Calls
set_option Elab.async false
set_option maxRecDepth 100000
namespace Mine
/-- the decoders that hold a bytearray, and the frames that lend one: none of these may stand on the stack -/
def badIds : List String := PySem.Builtin.Bytes.decodersThatHold ++ ["bytearray.__contains__", "bytearray.__mod__", "bytearray.__rmod__", "_struct.pack_into.held", "bytearray.find.held"]
def badC : Code → Bool
  | .builtin id _ => badIds.contains id
  | _ => false
def Clean (Γ : Ctx) : Prop := ∀ x ∈ Γ.below, badC x.1 = false
def wpG {α : Type} (M : Model) (A : Around) (t : Sem α) (Q : α → Shared → Prop) (E : Value → Shared → Prop) (s : Shared) : Prop :=
  ∀ Γ p, Γ.In A → (A.units < 1000000 → badC Γ.code = false ∧ Clean Γ) → Sem.wp M Γ t (fun a _ s' => Q a s') (fun e _ s' => E e s') p s
def codeG (M : Model) (A : Around) (c : Code) (R : Result → Shared → Prop) (s : Shared) : Prop := ∀ Γ p, Γ.code = c → Γ.Below A → (A.units < 1000000 → Clean Γ) → wpCode M Γ R p s
structure Go (w : World) (A : Around) {α : Type} (t : Sem α) (h : Heap) (R : α → Heap → Prop) : Prop where
  go : ∀ g d k os, wpG (model PW w) A t (fun a s' => s'.gens = g ∧ s'.drawn = d ∧ s'.os = os ∧ R a s'.heap) (fun _ _ => False) ⟨h, g, d, k, os⟩
structure GoC (w : World) (A : Around) (c : Code) (h : Heap) (R : Flow → Heap → Prop) : Prop where
  go : ∀ g d k os, codeG (model PW w) A c (fun r s' => match r with | .ok f => s'.gens = g ∧ s'.drawn = d ∧ s'.os = os ∧ R f s'.heap | .error _ => False) ⟨h, g, d, k, os⟩
theorem wpG_mono {α : Type} {M : Model} {A : Around} {t : Sem α} {Q Q' : α → Shared → Prop} {E E' : Value → Shared → Prop} {s : Shared} (x : wpG M A t Q E s) (hQ : ∀ a s, Q a s → Q' a s) (hE : ∀ e s, E e s → E' e s) : wpG M A t Q' E' s :=
  fun Γ p i c => Sem.wp_mono M Γ t (fun a _ s => hQ a s) (fun e _ s => hE e s) p s (x Γ p i c)
theorem clean_enter {Γ : Ctx} {c : Code} {hd : Option Value} {p : Pos} (x : badC Γ.code = false ∧ Clean Γ) : Clean (Γ.enter c hd p) := by
  intro y hy
  rcases List.mem_cons.mp hy with e | e
  · rw [e]; exact x.1
  · exact x.2 y e
section
variable {w : World} {A : Around} {α β : Type} {h : Heap} {a : α} {R : α → Heap → Prop} {S : β → Heap → Prop}
theorem Go.lib {t : Sem α} (x : ∀ g d k os, wpAny (model PW w) A t (fun a s' => s'.gens = g ∧ s'.drawn = d ∧ s'.os = os ∧ R a s'.heap) (fun _ _ => False) ⟨h, g, d, k, os⟩) : Go w A t h R := ⟨fun g d k os Γ p i _ => x g d k os Γ p i⟩
theorem Go.wp {t : Sem α} (x : Go w A t h R) {g d k os} {Q : α → Shared → Prop} {E : Value → Shared → Prop} (q : ∀ a h' k', R a h' → Q a ⟨h', g, d, k', os⟩) : wpG (model PW w) A t Q E ⟨h, g, d, k, os⟩ :=
  wpG_mono (x.go g d k os) (fun a s' y => by
    obtain ⟨h', g', d', k', os'⟩ := s'
    obtain ⟨rfl, rfl, rfl, y⟩ := y
    exact q a h' k' y) fun _ _ f => f.elim
theorem Go.mono {t : Sem α} {R' : α → Heap → Prop} (x : Go w A t h R) (q : ∀ a h, R a h → R' a h) : Go w A t h R' := Go.mk fun _ _ _ _ => x.wp fun _ _ _ y => ⟨rfl, rfl, rfl, q _ _ y⟩
theorem Go.pure (x : R a h) : Go w A (Pure.pure a) h R := Go.lib fun _ _ _ _ => wpAny_pure ⟨rfl, rfl, rfl, x⟩
theorem Go.pure' (x : R a h) : Go w A (Sem.pure a) h R := Go.pure x
theorem Go.bind {m : Sem β} {f : β → Sem α} (x : Go w A m h fun b h' => Go w A (f b) h' R) : Go w A (m >>= f) h R := Go.mk fun g d k os Γ p i c => by
  rw [Sem.wp_bind']
  refine Sem.wp_mono _ Γ m (fun b p' s' y => ?_) (fun _ _ _ f => f) p _ (x.go g d k os Γ p i c)
  obtain ⟨h', g', d', k', os'⟩ := s'
  obtain ⟨rfl, rfl, rfl, y⟩ := y
  exact y.go _ _ _ _ Γ p' i c
theorem Go.eq {t t' : Sem α} (e : t = t') (x : Go w A t' h R) : Go w A t h R := by rw [e]; exact x
theorem Go.map {m : Sem β} {f : β → α} (x : Go w A m h fun b h' => R (f b) h') : Go w A (f <$> m) h R := Go.mk fun g d k os Γ p i c => by rw [Sem.wp_map]; exact x.go g d k os Γ p i c
theorem Go.holding {vs : List Value} {m : Sem α} (x : Go w A m h R) : Go w A (PySem.holding vs m) h R := Go.mk fun g d k os Γ p i c => by rw [Sem.wp_holding]; exact x.go g d k os Γ p i c
theorem Go.keep {vs : List Value} {m : Sem α} (x : Go w A m h R) : Go w A (m.keep vs) h R := Go.mk fun g d k os Γ p i c => by rw [Sem.wp_keep]; exact x.go g d k os Γ p i c
theorem Go.tryCatch {m : Sem α} {f : Value → Sem α} (x : Go w A m h R) : Go w A (MonadExcept.tryCatch m f) h R := Go.mk fun g d k os Γ p i c => by
  rw [Sem.wp_tryCatch']
  exact Sem.wp_mono _ Γ m (fun _ _ _ y => y) (fun _ _ _ f => f.elim) p _ (x.go g d k os Γ p i c)
theorem Go.tryCatch' {m : Sem α} {f : Value → Sem α} (x : Go w A m h R) : Go w A (m.tryCatch f) h R := Go.tryCatch x
theorem Go.onRaise {m : Sem α} {f : Value → Sem Unit} (x : Go w A m h R) : Go w A (m.onRaise f) h R := Go.mk fun g d k os Γ p i c => by
  rw [Sem.wp_onRaise]
  exact Sem.wp_mono _ Γ m (fun _ _ _ y => y) (fun _ _ _ f => f.elim) p _ (x.go g d k os Γ p i c)
theorem Go.attempt {m : Sem α} {R : Except Value α → Heap → Prop} (x : Go w A m h fun a h' => R (.ok a) h') : Go w A m.attempt h R := Go.mk fun g d k os Γ p i c => by
  rw [Sem.wp_attempt]
  exact Sem.wp_mono _ Γ m (fun _ _ _ y => y) (fun _ _ _ f => f.elim) p _ (x.go g d k os Γ p i c)
theorem Go.operate {vs : List Value} {t : Sem Value} {R : Value → Heap → Prop} (x : Go w A t h R) : Go w A (PySem.operate vs t) h R := Go.mk fun g d k os Γ p i c => by rw [Sem.wp_operate]; exact x.go g d k os Γ p i c
theorem Go.ite {c : Prop} [Decidable c] {a b : Sem α} (x : c → Go w A a h R) (y : ¬ c → Go w A b h R) : Go w A (if c then a else b) h R := by
  by_cases e : c
  · rw [if_pos e]; exact x e
  · rw [if_neg e]; exact y e
theorem Go.rule {t : String} {R : Unit → Heap → Prop} (x : R () h) : Go w A (PySem.rule t) h R := Go.lib fun _ _ _ _ => wpAny_rule ⟨rfl, rfl, rfl, x⟩
theorem Go.standAt {p : Pos} {R : Unit → Heap → Prop} (x : R () h) : Go w A (PySem.standAt p) h R := Go.lib fun _ _ _ _ => wpAny_standAt ⟨rfl, rfl, rfl, x⟩
theorem Go.point {R : Unit → Heap → Prop} (x : R () h) : Go w A PySem.point h R := Go.lib fun _ _ _ _ => wpAny_point ⟨rfl, rfl, rfl, x⟩
theorem Go.ask {R : Setting → Heap → Prop} (x : R ⟨PW, w.params⟩ h) : Go w A PySem.ask h R := Go.lib fun _ _ _ _ => wpAny_askSetting ⟨rfl, rfl, rfl, x⟩
theorem Go.load {ad : Addr} {o : Obj} {R : Obj → Heap → Prop} (ho : h.get? ad = some o) (x : R o h) : Go w A (PySem.load ad) h R := Go.lib fun _ _ _ _ => wpAny_load ho ⟨rfl, rfl, rfl, x⟩
theorem Go.loadPart {ad : Addr} {q : Option Value} {o : Obj} {R : Obj → Heap → Prop} (ho : h.get? ad = some o) (x : R o h) : Go w A (PySem.loadPart ad q) h R := Go.lib fun _ _ _ _ => wpAny_loadPart ho ⟨rfl, rfl, rfl, x⟩
theorem Go.alloc {o : Obj} {R : Addr → Heap → Prop} (x : R h.objs.size (h.push o)) : Go w A (PySem.alloc o) h R := Go.lib fun _ _ _ _ => wpAny_alloc ⟨rfl, rfl, rfl, x⟩
theorem Go.update {ad : Addr} {f : Obj → Obj} {o : Obj} {R : Unit → Heap → Prop} (ho : h.get? ad = some o) (x : R () (h.update ad f)) : Go w A (PySem.update ad f) h R := Go.lib fun _ _ _ _ => wpAny_update ho ⟨rfl, rfl, rfl, x⟩
theorem Go.mkInt {i : Int} {R : Value → Heap → Prop} (x : ∀ t, R (.int i t) h) : Go w A (PySem.mkInt i) h R := Go.lib fun _ _ _ _ => wpAny_mkInt ⟨rfl, rfl, rfl, x _⟩
theorem Go.mkStr {s : Str} {R : Value → Heap → Prop} (hs : s.length ≤ sizeLine) (x : ∀ t, R (.str s t) h) : Go w A (PySem.mkStr s) h R := Go.lib fun _ _ _ _ => wpAny_mkStr ⟨rfl, rfl, rfl, x _⟩ hs
theorem Go.mkText {s : Str} {R : Value → Heap → Prop} (x : ∀ t, R (.str s t) h) : Go w A (PySem.mkText s) h R := Go.lib fun _ _ _ _ => wpAny_mkText ⟨rfl, rfl, rfl, x _⟩
theorem Go.fresh {R : Tok → Heap → Prop} (x : ∀ t, R t h) : Go w A PySem.fresh h R := Go.lib fun _ _ _ _ => wpAny_fresh ⟨rfl, rfl, rfl, x _⟩
theorem Go.mkBytes {s : Array UInt8} {R : Value → Heap → Prop} (hs : s.size ≤ sizeLine) (x : ∀ t, R (.bytes s t) h) : Go w A (PySem.mkBytes s) h R := by
  unfold PySem.mkBytes
  rw [if_neg (Nat.not_lt.mpr hs)]
  exact Go.bind (Go.fresh fun t => Go.pure (x t))
theorem Go.mkTextBytes {s : Array UInt8} {R : Value → Heap → Prop} (x : ∀ t, R (.bytes s t) h) : Go w A (PySem.mkTextBytes s) h R := Go.bind (Go.fresh fun t => Go.pure (x t))
theorem Go.newList {items : List Value} {R : Value → Heap → Prop} (hs : items.length ≤ sizeLine) (x : R (.ref h.objs.size) (h.push { cls := .type "list", data := .seq items.toArray })) : Go w A (PySem.newList items) h R := Go.lib fun _ _ _ _ => wpAny_newList ⟨rfl, rfl, rfl, x⟩ hs
theorem Go.newObj {T : String} {data : Data} {dict : Option Addr} {R : Value → Heap → Prop} (hs : sizeOk data) (x : R (.ref h.objs.size) (h.push { cls := .type T, dict := dict, data := data })) : Go w A (PySem.newObj (.type T) data dict) h R := Go.lib fun _ _ _ _ => wpAny_newObj_type ⟨rfl, rfl, rfl, x⟩ hs

/-! codes -/
theorem GoC.lib {c : Code} {R : Flow → Heap → Prop} (x : ∀ g d k os, codeAny (model PW w) A c (fun r s' => match r with | .ok f => s'.gens = g ∧ s'.drawn = d ∧ s'.os = os ∧ R f s'.heap | .error _ => False) ⟨h, g, d, k, os⟩) : GoC w A c h R := ⟨fun g d k os Γ p e i _ => x g d k os Γ p e i⟩
theorem GoC.mono {c : Code} {R R' : Flow → Heap → Prop} (x : GoC w A c h R) (q : ∀ f h, R f h → R' f h) : GoC w A c h R' := GoC.mk fun g d k os Γ p e i cl =>
  wpCode_mono (fun r s' y => by
    cases r with
    | ok f => exact ⟨y.1, y.2.1, y.2.2.1, q _ _ y.2.2.2⟩
    | error e => exact y) (x.go g d k os Γ p e i cl)
def CallR (R : Value → Heap → Prop) : Flow → Heap → Prop := fun fl h' => match fl with | .ret v => R v h' | _ => False
theorem Go.runValue {c : Code} {R : Value → Heap → Prop} (x : GoC w A c h (CallR R)) : Go w A (PySem.runValue c) h R := Go.mk fun g d k os Γ p i cl => by
  rw [Sem.wp_runValue]
  refine wpCode_mono (fun r s' y => ?_) (x.go g d k os _ p rfl (i.enter c none p (by intro x; cases x)) (fun hu => clean_enter (cl hu)))
  cases r with
  | ok f => cases f with
    | ret v => exact y
    | _ => exact y.2.2.2.elim
  | error e => exact y
theorem Go.call {f : Value} {pos : List Value} {kw : List (Str × Value)} {R : Value → Heap → Prop} (x : GoC w A (.call f ⟨pos, kw⟩) h (CallR R)) : Go w A (PySem.call f pos kw) h R := Go.runValue x
theorem mark_none (A : Around) : A.mark none = A := by cases A; rfl
theorem Go.run {c : Code} {R : Flow → Heap → Prop} (x : GoC w A c h R) : Go w A (PySem.run c none) h R := Go.mk fun g d k os Γ p i cl => by
  rw [Sem.wp_run]
  refine wpCode_mono (fun r s' y => ?_) (x.go g d k os _ p rfl (i.enter c none p (by intro x; cases x)) (fun hu => clean_enter (cl hu)))
  cases r with
  | ok f => exact y
  | error e => exact y
def FinR (w : World) (A : Around) (R : Flow → Heap → Prop) : Fin → Heap → Prop := fun fin h' => match fin with
  | .done f => R f h'
  | .again c => c.quiet = true ∧ GoC w A c h' R
theorem GoC.tree {c : Code} {R : Flow → Heap → Prop} (hb : badC c = false) (x : Go w (A.under c) (denote table c) h (FinR w A R)) : GoC w A c h R := GoC.mk fun g d k os Γ p e i cl => by
  rw [wpCode_iff_wp, e]
  refine Sem.wp_mono _ Γ _ (fun fin p' s' y => ?_) (fun _ _ _ f => f.elim) p _ (x.go g d k os Γ p (e ▸ i.in) fun hu => ⟨e ▸ hb, cl (Nat.lt_of_le_of_lt (Nat.le_add_right ..) hu)⟩)
  obtain ⟨h', g', d', k', os'⟩ := s'
  obtain ⟨rfl, rfl, rfl, y⟩ := y
  cases fin with
  | done f => exact ⟨rfl, rfl, rfl, y⟩
  | again c => exact ⟨y.1, y.2.go _ _ _ _ (Γ.goto c) p' rfl (i.goto c) cl⟩
theorem GoC.treeB {c : Code} {R : Flow → Heap → Prop} (hu : 1000000 ≤ A.units) (x : Go w (A.under c) (denote table c) h (FinR w A R)) : GoC w A c h R := GoC.mk fun g d k os Γ p e i cl => by
  rw [wpCode_iff_wp, e]
  refine Sem.wp_mono _ Γ _ (fun fin p' s' y => ?_) (fun _ _ _ f => f.elim) p _ (x.go g d k os Γ p (e ▸ i.in) fun hl => absurd (Nat.lt_of_le_of_lt (Nat.le_add_right ..) hl) (Nat.not_lt.mpr hu))
  obtain ⟨h', g', d', k', os'⟩ := s'
  obtain ⟨rfl, rfl, rfl, y⟩ := y
  cases fin with
  | done f => exact ⟨rfl, rfl, rfl, y⟩
  | again c => exact ⟨y.1, y.2.go _ _ _ _ (Γ.goto c) p' rfl (i.goto c) cl⟩
/-- where the stack may hold anything: units beyond the line -/
abbrev bigA (A : Around) : Around := { A with units := A.units + 1000000 }
theorem GoC.big {c : Code} {R : Flow → Heap → Prop} (x : GoC w (bigA A) c h R) : GoC w A c h R := GoC.mk fun g d k os Γ p e i cl =>
  x.go g d k os Γ p e ⟨i.1, i.2.1, i.2.2.1, i.2.2.2.1, Nat.le_trans i.2.2.2.2 (Nat.le_add_right ..)⟩ fun hl => absurd hl (Nat.not_lt.mpr (Nat.le_add_left ..))
theorem GoC.builtinB {id : String} {args : Args} {b : Builtin} {R : Flow → Heap → Prop} (hu : 1000000 ≤ A.units) (hq : plainId id = true) (hb : entryFor table id = some b) (hc : Go w A.in1 (checkBuiltinCall id args) h fun _ h' => Go w A.in1 (b args) h' (FinR w A R)) :
    GoC w A (.call (.builtin id) args) h R := by
  refine GoC.treeB hu ?_
  show Go w A.in1 (do checkBuiltinCall id args; PySem.again (.builtin id args)) h _
  refine Go.bind (hc.mono fun _ h1 y => Go.pure ⟨plainId_quiet hq args, GoC.treeB hu ?_⟩)
  rw [Around.under_plainId hq]
  show Go w A.in1 (match entryFor table id with | some b => b args | none => unsupported ((withoutEnding? id "#data").getD id)) h1 _
  rw [hb]
  exact y
/-- a builtin's own code (behind 'again') -/
theorem GoC.entry {id : String} {args : Args} {b : Builtin} {R : Flow → Heap → Prop} (hbad : badIds.contains id = false) (hq : plainId id = true) (hb : entryFor table id = some b) (x : Go w A.in1 (b args) h (FinR w A R)) : GoC w A (.builtin id args) h R := by
  refine GoC.tree hbad ?_
  rw [Around.under_plainId hq]
  show Go w A.in1 (match entryFor table id with | some b => b args | none => unsupported ((withoutEnding? id "#data").getD id)) h _
  rw [hb]
  exact x
theorem GoC.builtin {id : String} {args : Args} {b : Builtin} {R : Flow → Heap → Prop} (hbad : badIds.contains id = false) (hq : plainId id = true) (hb : entryFor table id = some b) (hc : Go w A.in1 (checkBuiltinCall id args) h fun _ h' => Go w A.in1 (b args) h' (FinR w A R)) :
    GoC w A (.call (.builtin id) args) h R := by
  refine GoC.tree rfl ?_
  show Go w A.in1 (do checkBuiltinCall id args; PySem.again (.builtin id args)) h _
  exact Go.bind (hc.mono fun _ h1 y => Go.pure ⟨plainId_quiet hq args, GoC.entry hbad hq hb y⟩)
def TyIs (h : Heap) (v : Value) (T : String) : Prop := match v with
  | .ref a => ∃ o, h.get? a = some o ∧ o.cls = .type T
  | v => typeOf v = Pure.pure (.type T)
theorem TyIs.at {v : Value} {T : String} (x : TyIs h v T) {g d k os} : (⟨h, g, d, k, os⟩ : Shared).TypeIs v T := by
  cases v <;> exact x
theorem Go.check_fn {id : String} {args : Args} {R : Unit → Heap → Prop} (hk : builtinKind id = none) (ha : argsOk id args) (x : R () h) : Go w A (checkBuiltinCall id args) h R := by
  simp only [checkBuiltinCall, hk]
  cases hsig : Manifest.signature? id with
  | none => exact Go.pure x
  | some sig =>
    have h2 : Bind.checkArgs id sig args = Pure.pure () := by simpa only [argsOk, hsig] using ha
    show Go w A (Bind.checkArgs id sig args) h R
    rw [h2]; exact Go.pure x
theorem Go.check_slot {T : String} {name : Str} {id : String} {self : Value} {rest : List Value} {kw : List (Str × Value)} {R : Unit → Heap → Prop} (slot : Slot T name id) (hT : TyIs h self T) (ha : argsOk id ⟨self :: rest, kw⟩) (x : R () h) :
    Go w A (checkBuiltinCall id ⟨self :: rest, kw⟩) h R := Go.lib fun _ _ _ _ => slot.check _ _ _ _ _ _ _ _ hT.at ha ⟨rfl, rfl, rfl, x⟩
/-- a call of a built-in function -/
theorem Go.fn {id : String} {b : Builtin} {args : List Value} {R : Value → Heap → Prop} (hk : builtinKind id = none) (hp : plainId id = true) (hb : entryFor table id = some b) (ha : argsOk id ⟨args, []⟩) (x : Go w A.in1 (b ⟨args, []⟩) h (FinR w A (CallR R))) (hbad : badIds.contains id = false := by decide +kernel) :
    Go w A (PySem.call (.builtin id) args) h R := Go.call (GoC.builtin hbad hp hb (Go.check_fn hk ha x))
/-- a call of a slot or a method -/
theorem Go.slot {T : String} {name : Str} {id : String} {b : Builtin} {self : Value} {rest : List Value} {R : Value → Heap → Prop} (slot : Slot T name id) (hT : TyIs h self T) (hb : entryFor table id = some b) (ha : argsOk id ⟨self :: rest, []⟩) (x : Go w A.in1 (b ⟨self :: rest, []⟩) h (FinR w A (CallR R))) (hbad : badIds.contains id = false := by decide +kernel) :
    Go w A (PySem.call (.builtin id) (self :: rest)) h R := Go.call (GoC.builtin hbad slot.plain hb (Go.check_slot slot hT ha x))
theorem Go.ret {v : Value} {R : Value → Heap → Prop} {A' : Around} (x : R v h) : Go w A (PySem.ret v) h (FinR w A' (CallR R)) := Go.pure x
theorem Go.retInt {i : Int} {R : Value → Heap → Prop} {A' : Around} (x : ∀ t, R (.int i t) h) : Go w A (PySem.retInt i) h (FinR w A' (CallR R)) := Go.bind (Go.mkInt fun t => Go.ret (x t))
theorem Go.retStr {i : Str} {R : Value → Heap → Prop} {A' : Around} (hs : i.length ≤ sizeLine) (x : ∀ t, R (.str i t) h) : Go w A (PySem.retStr i) h (FinR w A' (CallR R)) := Go.bind (Go.mkStr hs fun t => Go.ret (x t))
theorem Go.again {c : Code} {R : Flow → Heap → Prop} {A' : Around} (hq : c.quiet = true) (x : GoC w A' c h R) : Go w A (PySem.again c) h (FinR w A' R) := Go.pure ⟨hq, x⟩
theorem Go.typeOf {v : Value} {T : String} {R : Value → Heap → Prop} (hT : TyIs h v T) (x : R (.type T) h) : Go w A (PySem.typeOf v) h R := Go.lib fun _ _ _ _ => wpAny_typeOf hT.at ⟨rfl, rfl, rfl, x⟩
theorem Go.specialOf {v : Value} {T : String} {name : Str} {r : Option Value} {R : Option Value → Heap → Prop} (hT : TyIs h v T) (hl : typeLookup (.type T) name = Pure.pure r) (x : R r h) : Go w A (PySem.specialOf v name) h R := Go.lib fun _ _ _ _ => wpAny_specialOf hT.at hl ⟨rfl, rfl, rfl, x⟩
theorem Go.isInstance {v : Value} {T U : String} {b : Bool} {R : Bool → Heap → Prop} (hT : TyIs h v T) (hs : isSubtype (.type T) (.type U) = Pure.pure b) (x : R b h) : Go w A (PySem.isInstance v (.type U)) h R := Go.lib fun _ _ _ _ => wpAny_isInstance hT.at hs ⟨rfl, rfl, rfl, x⟩
theorem Go.getMethod {v : Value} {T : String} {name : Str} {id : String} {pl : Sem Bool} {R : Value × List Value → Heap → Prop} (hT : TyIs h v T) (pa : PlainAttrs T) (slot : Slot T name id) (hty : PySem.typeOf (.builtin id) = Pure.pure (.type "method_descriptor"))
    (hd : ∀ a, v = .ref a → ∃ o, h.get? a = some o ∧ o.dict = none) (x : R (.builtin id, [v]) h) : Go w A (PySem.getMethod v name pl) h R := Go.lib fun _ _ _ _ => getMethod_builtin hT.at pa slot hty hd ⟨rfl, rfl, rfl, x⟩
end
end Mine
end
section
open PySem PySem.W PyProof.Rows PySem.Calls
set_option Elab.async false
set_option maxRecDepth 100000
set_option linter.unusedVariables false
namespace Mine
def upd (m : Str → Option Value) (x : Str) (v : Value) : Str → Option Value := fun y => if y = x then some v else m y
theorem upd_eq (m : Str → Option Value) (x : Str) (v : Value) : upd m x v x = some v := if_pos rfl
theorem upd_ne {m : Str → Option Value} {x y : Str} {v : Value} (h : y ≠ x) : upd m x v y = m y := if_neg h
abbrev Kp (h h' : Heap) : Prop := ∀ b o, h.get? b = some o → h'.get? b = some o
theorem Kp.rfl (h : Heap) : Kp h h := fun _ _ e => e
theorem Kp.trans {h h' h'' : Heap} (a : Kp h h') (b : Kp h' h'') : Kp h h'' := fun x o e => b x o (a x o e)
theorem fr_kp {h₀ h h' : Heap} {L : Addr} {m : Str → Option Value} (F : Fr h₀ L h m) (k : Kp h h') : Fr h₀ L h' m := ⟨F.ns.keeps k, fun b o e => k _ _ (F.keep b o e), F.above⟩
section
variable {w : World} {A : Around} {α β : Type} {h h₀ : Heap} {m : Str → Option Value} {env : Env} {R : Value → Heap → Prop} {S : Flow → Heap → Prop}
/-! names -/
theorem Go.nameL {x : Str} {pos : Pos} {v : Value} (F : Fr h₀ env.locals h m) (hv : m x = some v) (r : R v h) (hk : env.scope.kind = .function := by kernel_rfl) (hl : env.kindOf x = some .local := by kernel_rfl) (hd : (x == ("__debug__" : Str)) = false := by decide +kernel) :
    Go w A (eval (.Name x pos) env) h R := Go.lib fun _ _ _ _ => wpAny_Name (wpAny_loadName_local hk hl F.ns hv ⟨rfl, rfl, rfl, r⟩) hd
theorem Go.nameLn {x : Str} {v : Value} (F : Fr h₀ env.locals h m) (hv : m x = some v) (r : R v h) (hk : env.scope.kind = .function := by kernel_rfl) (hl : env.kindOf x = some .local := by kernel_rfl) :
    Go w A (loadName env x) h R := Go.lib fun _ _ _ _ => wpAny_loadName_local hk hl F.ns hv ⟨rfl, rfl, rfl, r⟩
theorem lookup_zip {α β : Type} [BEq α] [LawfulBEq α] {f : α → β} : ∀ {l : List α} {r : List β} {x : α} {y : β}, l.map f = r → (l.zip r).lookup x = some y → f x = y
  | [], _, _, _, _, h => by simp at h
  | a :: l, [], _, _, e, _ => by simp at e
  | a :: l, b :: r, x, y, e, h => by
    rw [List.map_cons, List.cons.injEq] at e
    rw [List.zip_cons_cons, List.lookup_cons] at h
    by_cases q : (x == a) = true
    · rw [q] at h
      have := eq_of_beq q
      subst this
      exact e.1.trans (Option.some.inj h)
    · rw [Bool.not_eq_true] at q
      rw [q] at h
      exact lookup_zip e.2 h
theorem Go.nameG {x : Str} {pos : Pos} {v : Value} (T : TF h) (r : R v h) (hx : (gNames.zip gVals).lookup x = some (some v) := by kernel_rfl) (hk : env.scope.kind = .function := by kernel_rfl) (hl : env.kindOf x = some .globalImplicit := by kernel_rfl)
    (hg : env.globals = mainGlobals := by kernel_rfl) (hd : (x == ("__debug__" : Str)) = false := by decide +kernel) : Go w A (eval (.Name x pos) env) h R := Go.lib fun _ _ _ _ => by
  obtain ⟨mg, g1, g2, g3⟩ := T.glob
  exact Name_function_global hk hl (loadGlobal_global (by rw [hg]; exact g1) (lookup_zip g2 hx) ⟨rfl, rfl, rfl, r⟩) hd
theorem Go.nameB {x : Str} {pos : Pos} {v : Value} (T : TF h) (r : R v h) (hx : (bNames.zip bVals).lookup x = some (some v) := by kernel_rfl) (hm : x ∈ bNames := by decide +kernel) (hk : env.scope.kind = .function := by kernel_rfl) (hl : env.kindOf x = some .globalImplicit := by kernel_rfl)
    (hg : env.globals = mainGlobals := by kernel_rfl) (hb : env.builtins = builtinsNs := by kernel_rfl) (hd : (x == ("__debug__" : Str)) = false := by decide +kernel) : Go w A (eval (.Name x pos) env) h R := Go.lib fun _ _ _ _ => by
  obtain ⟨mg, g1, g2, g3⟩ := T.glob
  obtain ⟨mb, b1, b2⟩ := T.blt
  exact Name_function_global hk hl (loadGlobal_builtin (by rw [hg]; exact g1) (g3 _ hm) (by rw [hb]; exact b1) (lookup_zip b2 hx) ⟨rfl, rfl, rfl, r⟩) hd
/-! constants -/
theorem Go.cInt {i : Int} {k : Nat} {pos : Pos} (r : ∀ t, R (.int i t) h) : Go w A (eval (.Constant (.int i) k pos) env) h R := Go.mkInt r
theorem Go.cStr {i : Str} {k : Nat} {pos : Pos} (r : ∀ t, R (.str i t) h) : Go w A (eval (.Constant (.str i) k pos) env) h R := Go.mkText r
theorem Go.cBytes {i : List UInt8} {k : Nat} {pos : Pos} (r : ∀ t, R (.bytes i.toArray t) h) : Go w A (eval (.Constant (.bytes i) k pos) env) h R := Go.mkTextBytes r
theorem Go.cBool {i : Bool} {k : Nat} {pos : Pos} (r : R (.bool i) h) : Go w A (eval (.Constant (.bool i) k pos) env) h R := Go.pure r
theorem Go.cNone {k : Nat} {pos : Pos} (r : R .none h) : Go w A (eval (.Constant .none k pos) env) h R := Go.pure r
/-! operators -/
theorem Go.binop {l r : Expr} {op : Operator} {pos : Pos} (x : Go w A (eval l env) h fun a h1 => Go w A (eval r env) h1 fun b h2 => Go w A (binaryOp op a b) h2 R) : Go w A (eval (.BinOp l op r pos) env) h R := Go.eq (eval_BinOp ..) (Go.bind (x.mono fun _ _ y => Go.bind (Go.holding (y.mono fun _ _ z => Go.bind (Go.standAt (Go.operate z))))))
theorem Go.compare {l r : Expr} {op : CmpOp} {pos : Pos} (x : Go w A (eval l env) h fun a h1 => Go w A (eval r env) h1 fun b h2 => Go w A (compareOp op a b) h2 R) (hm : behindInMarks op r = false := by rfl) : Go w A (eval (.Compare l [op] [r] pos) env) h R := by
  rw [eval_Compare1, markedBehindIn_of_false hm]
  exact Go.bind (x.mono fun _ _ y => Go.bind (Go.holding (y.mono fun _ _ z => Go.bind (Go.standAt (Go.operate z)))))
theorem Go.addI {a b : Int} {t u : Tok} (r : ∀ t, R (.int (a + b) t) h) : Go w A (binaryOp .Add (.int a t) (.int b u)) h R := Go.lib fun _ _ _ _ => add_int ⟨rfl, rfl, rfl, r _⟩
theorem Go.modI {a b : Int} {t u : Tok} (hb : b ≠ 0) (r : ∀ t, R (.int (a.fmod b) t) h) : Go w A (binaryOp .Mod (.int a t) (.int b u)) h R := Go.lib fun _ _ _ _ => mod_int' hb ⟨rfl, rfl, rfl, r _⟩
theorem Go.addS {x y : Str} {t u : Tok} (hs : x.length + y.length ≤ sizeLine) (r : ∀ t, R (.str (x ++ y) t) h) : Go w A (binaryOp .Add (.str x t) (.str y u)) h R := Go.lib fun _ _ _ _ => add_str (fun _ _ => ⟨rfl, rfl, rfl, r _⟩) hs
theorem Go.eqI {a b : Int} {t u : Tok} (r : R (.bool (a == b)) h) : Go w A (compareOp .Eq (.int a t) (.int b u)) h R := Go.lib fun _ _ _ _ => eq_int ⟨rfl, rfl, rfl, r⟩
theorem Go.eqS {a b : Str} {t u : Tok} (r : R (.bool (a == b)) h) : Go w A (compareOp .Eq (.str a t) (.str b u)) h R := Go.lib fun _ _ _ _ => eq_str ⟨rfl, rfl, rfl, r⟩
theorem Go.eqB {a b : Array UInt8} {t u : Tok} (r : R (.bool (a.toList == b.toList)) h) : Go w A (compareOp .Eq (.bytes a t) (.bytes b u)) h R := Go.lib fun _ _ _ _ => eq_bytes ⟨rfl, rfl, rfl, r⟩
/-! tests -/
theorem Go.tBool {b : Bool} {R : Bool → Heap → Prop} (r : R b h) : Go w A (truthy (.bool b)) h R := Go.pure r
theorem Go.isTCompare {l r : Expr} {op : CmpOp} {pos : Pos} {whole : Sem Value} {R : Bool → Heap → Prop} (x : Go w A (eval l env) h fun a h1 => Go w A (eval r env) h1 fun b h2 => Go w A (compareOp op a b) h2 fun c h3 => ∃ q, c = .bool q ∧ R q h3) (hm : behindInMarks op r = false := by rfl) :
    Go w A (PySem.isTrue (.Compare l [op] [r] pos) env whole) h R := by
  rw [isTrue_Compare1, markedBehindIn_of_false hm]
  refine Go.bind (x.mono fun _ _ y => Go.bind (Go.holding (y.mono fun _ _ z => Go.bind (Go.standAt (Go.bind (Go.operate (z.mono fun c h3 v => Go.holding ?_)))))))
  obtain ⟨q, e, rr⟩ := v
  rw [e]
  exact Go.pure rr
theorem Go.isTPlain {e : Expr} {whole : Sem Value} {R : Bool → Heap → Prop} (x : Go w A whole h fun a h1 => Go w A (truthy a) h1 R) (hm : PySem.isTrue e env whole = (do let v ← whole; PySem.standAt e.pos; PySem.holding [v] (truthy v)) := by rfl) :
    Go w A (PySem.isTrue e env whole) h R := Go.eq hm (Go.bind (x.mono fun _ _ y => Go.bind (Go.standAt (Go.holding y))))
theorem Go.isTNot {e : Expr} {pos : Pos} {whole : Sem Value} {R : Bool → Heap → Prop} (x : Go w A (PySem.isTrue e env (eval e env)) h fun b h1 => R (!b) h1) : Go w A (PySem.isTrue (.UnaryOp .Not e pos) env whole) h R := Go.bind (x.mono fun _ _ y => Go.pure y)
theorem Go.isTAnd {e : Expr} {es : List Expr} {pos : Pos} {whole : Sem Value} {R : Bool → Heap → Prop} (x : Go w A (allTrue .And (e :: es) env) h R) : Go w A (PySem.isTrue (.BoolOp .And (e :: es) pos) env whole) h R := x
theorem Go.isTOr {e : Expr} {es : List Expr} {pos : Pos} {whole : Sem Value} {R : Bool → Heap → Prop} (x : Go w A (allTrue .Or (e :: es) env) h R) : Go w A (PySem.isTrue (.BoolOp .Or (e :: es) pos) env whole) h R := x
theorem Go.andNil {R : Bool → Heap → Prop} (x : R true h) : Go w A (allTrue .And [] env) h R := Go.pure x
theorem Go.orNil {R : Bool → Heap → Prop} (x : R false h) : Go w A (allTrue .Or [] env) h R := Go.pure x
theorem Go.andCons {e : Expr} {es : List Expr} {R : Bool → Heap → Prop} (x : Go w A (PySem.isTrue e env (eval e env)) h fun b h1 => if b = true then Go w A (allTrue .And es env) h1 R else R false h1) : Go w A (allTrue .And (e :: es) env) h R := by
  refine Go.bind (x.mono fun b h1 y => ?_)
  cases b
  · rw [if_neg Bool.false_ne_true] at y; exact Go.pure y
  · rw [if_pos rfl] at y; exact y
theorem Go.orCons {e : Expr} {es : List Expr} {R : Bool → Heap → Prop} (x : Go w A (PySem.isTrue e env (eval e env)) h fun b h1 => if b = true then R true h1 else Go w A (allTrue .Or es env) h1 R) : Go w A (allTrue .Or (e :: es) env) h R := by
  refine Go.bind (x.mono fun b h1 y => ?_)
  cases b
  · rw [if_neg Bool.false_ne_true] at y; exact y
  · rw [if_pos rfl] at y; exact Go.pure y
theorem Go.ifExp {t b o : Expr} {pos : Pos} (x : Go w A (PySem.isTrue t env (eval t env)) h fun q h1 => if q = true then Go w A (eval b env) h1 R else Go w A (eval o env) h1 R) : Go w A (eval (.IfExp t b o pos) env) h R := by
  refine Go.bind (x.mono fun q h1 y => ?_)
  cases q
  · rw [if_neg Bool.false_ne_true] at y ⊢; exact y
  · rw [if_pos rfl] at y ⊢; exact y
/-! statements -/
theorem Go.nil (x : S .next h) : Go w A (execs [] env) h S := Go.pure x
theorem Go.cons {st : Stmt} {rest : List Stmt} (x : Go w A (exec st env) h fun f h1 => match f with | .next => Go w A (execs rest env) h1 S | f => S f h1) : Go w A (execs (st :: rest) env) h S := by
  refine Go.bind (x.mono fun f h1 y => ?_)
  cases f with
  | next => exact y
  | brk => exact Go.pure y
  | cont => exact Go.pure y
  | ret v => exact Go.pure y
theorem Go.cons_eq {b : List Stmt} {st : Stmt} {rest : List Stmt} (e : b = st :: rest) (x : Go w A (execs (st :: rest) env) h S) : Go w A (execs b env) h S := by rw [e]; exact x
theorem Go.store {x : Str} {v : Value} {R : Unit → Heap → Prop} (F : Fr h₀ env.locals h m) (r : ∀ h', Fr h₀ env.locals h' (upd m x v) → Heap.SameBut env.locals h h' → R () h') (hl : env.kindOf x = some .local := by kernel_rfl)
    (hp : (env.scope.kind == .class || (env.scope.kind == .module && env.locals != env.globals)) = false := by kernel_rfl) : Go w A (storeName env x v) h R := Go.lib fun _ _ _ _ =>
  wpAny_storeName_local hl F.ns (fun h' hn hs => ⟨rfl, rfl, rfl, r h' (F.set hn hs) hs⟩) hp
theorem Go.bindL {x : Str} {v : Value} {R : Unit → Heap → Prop} (F : Fr h₀ env.locals h m) (r : ∀ h', Fr h₀ env.locals h' (upd m x v) → Heap.SameBut env.locals h h' → R () h') (hl : env.kindOf x = some .local := by kernel_rfl)
    (hp : (env.scope.kind == .class || (env.scope.kind == .module && env.locals != env.globals)) = false := by kernel_rfl) : Go w A (bindName env x v) h R :=
  Go.bind (Go.holding (Go.point (Go.bind (Go.store F (fun h' F' hs => Go.point (r h' F' hs)) hl hp))))
theorem Go.assign {x : Str} {p1 p2 : Pos} {e : Expr} (y : Go w A (eval e env) h fun v h1 => ∃ (h₀ : Heap) (m : Str → Option Value), Fr h₀ env.locals h1 m ∧ ∀ h', Fr h₀ env.locals h' (upd m x v) → Heap.SameBut env.locals h1 h' → S .next h') (hl : env.kindOf x = some .local := by kernel_rfl)
    (hp : (env.scope.kind == .class || (env.scope.kind == .module && env.locals != env.globals)) = false := by kernel_rfl) (hs : swapsWith e (some (.Name x p1)) p2.line env = Pure.pure false := by rfl) : Go w A (exec (.Assign [.Name x p1] e p2) env) h S := by
  rw [exec_Assign_Name _ _ _ _ _ hs]
  refine Go.bind (Go.standAt (Go.bind (y.mono fun v h1 z => Go.bind (Go.standAt ?_))))
  obtain ⟨h₀, m, F, r⟩ := z
  exact Go.bind (Go.bindL F (fun h' F' hs => Go.pure (r h' F' hs)) hl hp)
theorem Go.aug {x : Str} {p1 p2 : Pos} {op : Operator} {e : Expr} (y : Go w A (loadName env x) h fun old h0 => Go w A (eval e env) h0 fun v h1 => Go w A (inplaceOp op old v) h1 fun r h2 => ∃ (h₀ : Heap) (m : Str → Option Value), Fr h₀ env.locals h2 m ∧ ∀ h', Fr h₀ env.locals h' (upd m x r) → Heap.SameBut env.locals h2 h' → S .next h')
    (hl : env.kindOf x = some .local := by kernel_rfl) (hp : (env.scope.kind == .class || (env.scope.kind == .module && env.locals != env.globals)) = false := by kernel_rfl) : Go w A (exec (.AugAssign (.Name x p1) op e p2) env) h S := by
  rw [exec_AugAssign_Name]
  refine Go.bind (Go.standAt (Go.bind (y.mono fun _ _ y => Go.bind (Go.holding (y.mono fun _ _ y => Go.bind (Go.standAt (Go.bind (Go.operate (y.mono fun v h2 z => Go.bind (Go.standAt ?_))))))))))
  obtain ⟨h₀, m, F, r⟩ := z
  exact Go.bind (Go.bindL F (fun h' F' hs => Go.pure (r h' F' hs)) hl hp)
theorem Go.if_ {t : Expr} {b o : List Stmt} {pos : Pos} (x : Go w A (PySem.isTrue t env (eval t env)) h fun q h1 => if q = true then Go w A (execs b env) h1 S else Go w A (execs o env) h1 S) : Go w A (exec (.If t b o pos) env) h S := by
  refine Go.bind (Go.standAt (Go.bind (x.mono fun q h1 y => ?_)))
  cases q
  · rw [if_neg Bool.false_ne_true] at y ⊢; exact y
  · rw [if_pos rfl] at y ⊢; exact y
theorem Go.return_ {e : Expr} {pos : Pos} (x : Go w A (eval e env) h fun v h1 => S (.ret v) h1) : Go w A (exec (.Return (some e) pos) env) h S := Go.bind (Go.standAt (Go.bind (x.mono fun _ _ y => Go.pure y)))
theorem Go.continue_ {pos : Pos} (x : S .cont h) : Go w A (exec (.Continue pos) env) h S := Go.bind (Go.standAt (Go.pure x))
theorem Go.assignName {x : Str} {pos : Pos} {v : Value} {R : Unit → Heap → Prop} (F : Fr h₀ env.locals h m) (r : ∀ h', Fr h₀ env.locals h' (upd m x v) → Heap.SameBut env.locals h h' → R () h') (hl : env.kindOf x = some .local := by kernel_rfl)
    (hp : (env.scope.kind == .class || (env.scope.kind == .module && env.locals != env.globals)) = false := by kernel_rfl) : Go w A (PySem.assign (.Name x pos) env v) h R := Go.bind (Go.standAt (Go.bindL F r hl hp))
/-! calls -/
theorem Go.spNil {R : List Value → Heap → Prop} (r : R [] h) : Go w A (spliced []) h R := Go.pure r
theorem Go.spCons {x : Sem Value} {rest : List (Bool × Sem Value)} {R : List Value → Heap → Prop} (y : Go w A x h fun v h1 => Go w A (spliced rest) h1 fun vs h2 => R (v :: vs) h2) : Go w A (spliced ((false, x) :: rest)) h R := by
  rw [spliced]
  refine Go.bind (y.mono fun v h1 z => ?_)
  simp only [Bool.false_eq_true, if_false]
  exact Go.bind (Go.pure (Go.bind (Go.holding (z.mono fun vs h2 q => Go.pure q))))
theorem Go.args {f : Value} {args : List (Bool × Sem Value)} {R : Args → Heap → Prop} (x : Go w A (spliced args) h fun vs h1 => R ⟨vs, []⟩ h1) (hp : args.any (·.1) = false) : Go w A (evalArgs f true args []) h R := by
  unfold evalArgs
  cases args with
  | nil =>
    show Go w A (spliced [] >>= _) h _
    refine Go.bind (x.mono fun vs h1 r => Go.holding ?_)
    exact Go.bind (Go.pure (Go.bind (Go.pure (Go.pure r))))
  | cons a rest =>
    obtain ⟨b, y⟩ := a
    cases b with
    | false =>
      show Go w A (spliced ((false, y) :: rest) >>= _) h _
      refine Go.bind (x.mono fun vs h1 r => Go.holding ?_)
      exact Go.bind (Go.pure (Go.bind (Go.pure (Go.pure r))))
    | true => cases hp
theorem Go.cwB {pos : Pos} {id : String} {first : List Value} {args : List (Bool × Sem Value)} (x : Go w A (spliced args) h fun vs h1 => Go w A (PySem.call (.builtin id) (first ++ vs) []) h1 R) (hp : args.any (·.1) = false := by rfl) : Go w A (callWith pos (.builtin id) first args []) h R := by
  unfold callWith
  refine Go.bind (Go.holding (Go.args (x.mono fun vs h1 y => ?_) hp))
  refine Go.bind (Go.standAt ?_)
  simp only [hp, List.any_nil, Bool.or_false]
  refine Go.bind (Go.pure ?_)
  exact Go.bind (y.mono fun v h2 z => Go.bind (Go.holding (Go.point (Go.pure z))))
theorem Go.cwF {pos : Pos} {a : Addr} {o : Obj} {fd : FuncData} {args : List (Bool × Sem Value)} (x : Go w A (spliced args) h fun vs h1 => (h1.get? a = some o ∧ o.data = .func fd) ∧ Go w A (PySem.call (.ref a) vs []) h1 R) (hp : args.any (·.1) = false := by rfl) : Go w A (callWith pos (.ref a) [] args []) h R := by
  unfold callWith
  refine Go.bind (Go.holding (Go.args (x.mono fun vs h1 y => ?_) hp))
  refine Go.bind (Go.standAt ?_)
  have tail : ∀ {t : Sem Value}, Go w A t h1 R → Go w A (t >>= fun r => PySem.holding [r] PySem.point >>= fun _ => Pure.pure r) h1 R := fun q => Go.bind (q.mono fun v h2 z => Go.bind (Go.holding (Go.point (Go.pure z))))
  simp only [hp, List.any_nil, Bool.or_false]
  refine Go.bind (m := keeperOf (.ref a)) ?_
  unfold keeperOf
  refine Go.bind (Go.load y.1.1 ?_)
  rw [y.1.2]
  refine Go.pure ?_
  show Go w A (if args.length + 2 * ([] : List (Option Str × Sem Value)).length > 30 then _ else _) h1 R
  split
  · exact tail y.2
  · exact tail (by unfold callMarked; exact Go.keep y.2)
theorem keeper_type (T : String) : keeperOf (.type T) = Pure.pure .machine := rfl
theorem Go.cwT {pos : Pos} {T : String} {args : List (Bool × Sem Value)} (x : Go w A (spliced args) h fun vs h1 => Go w A (PySem.call (.type T) vs []) h1 R) (hp : args.any (·.1) = false := by rfl) : Go w A (callWith pos (.type T) [] args []) h R := by
  unfold callWith
  refine Go.bind (Go.holding (Go.args (x.mono fun vs h1 y => ?_) hp))
  refine Go.bind (Go.standAt ?_)
  rw [hp, keeper_type]
  refine Go.bind (Go.pure ?_)
  exact Go.bind (y.mono fun v h2 z => Go.bind (Go.holding (Go.point (Go.pure z))))
theorem Go.callE {f : Expr} {args : List Expr} {pos : Pos} (x : Go w A (eval f env) h fun v h1 => Go w A (callWith pos v [] (backTo pos (starEach args env)) []) h1 R) (hf : eval (.Call f args [] pos) env = (do callWith pos (← eval f env) [] (backTo pos (starEach args env)) (backToKw pos (keywordEach [] env))) := by rfl) :
    Go w A (eval (.Call f args [] pos) env) h R := Go.eq hf (Go.bind x)
theorem Go.argE {e : Expr} {pos : Pos} {R : Value → Heap → Prop} (x : Go w A (eval e env) h R) : Go w A (do let v ← eval e env; PySem.standAt pos; Pure.pure v) h R := Go.bind (x.mono fun _ _ y => Go.bind (Go.standAt (Go.pure y)))
/-! entering a def -/
theorem Go.enter {a : Addr} {o : Obj} {fd : FuncData} {body : List Stmt} {args : List Value} {binds : List (Str × Value)} (hroom : A.depth < recursionLimit) (ho : h.get? a = some o) (hdata : o.data = .func fd) (hlim : h.NoLimit) (hcd : h.CodeRec fd.code fd.qualname)
    (hbody : fd.body = .stmts body) (hb : ∀ s : Shared, s.heap = h → BindsTo s fd ⟨args, []⟩ binds) (hcell : ∀ x ∈ fd.scope.names, x.2 ≠ .cell) (hloc : ∀ x ∈ binds, fd.scope.names.lookup x.1 = some .local)
    (x : ∀ h₁, Fr h h.objs.size h₁ (fun x => binds.reverse.lookup x) → Go w (A.deeper (callEnv fd h.objs.size a)) (execs body (callEnv fd h.objs.size a)) h₁ (fun f h' => R (match f with | .ret v => v | _ => .none) h'))
    (hco : fd.scope.isCoroutine = false := by kernel_rfl) (hgen : fd.scope.isGenerator = false := by kernel_rfl) (hk : fd.scope.kind = .function := by kernel_rfl) : Go w A (PySem.call (.ref a) args []) h R := by
  refine Go.call (GoC.tree rfl ?_)
  show Go w A.in1 (callAny (.ref a) ⟨args, []⟩) h _
  simp only [callAny]
  refine Go.bind (Go.load ho ?_)
  obtain ⟨c, oc, vs, tq, hc, hoc, hdc, hq⟩ := hcd
  simp only [hdata, callFunction, hco, hgen, hbody, hc]
  refine Go.bind (m := field (.ref c) 1) (Go.lib fun g d k os => wpAny_field hoc hdc hq ⟨rfl, rfl, rfl, ?_⟩)
  refine Go.bind (Go.pure ?_)
  have bind : ∀ g d k os, wpAny (model PW w) A.in1 (bindArgs fd ⟨args, []⟩) (fun a s' => s'.gens = g ∧ s'.drawn = d ∧ s'.os = os ∧ (a = binds ∧ s'.heap = h)) (fun _ _ => False) ⟨h, g, d, k, os⟩ := fun g d k os => hb _ rfl _ _ _ _ ⟨rfl, rfl, rfl, rfl, rfl⟩
  refine Go.bind ((Go.lib (R := fun a h' => a = binds ∧ h' = h) bind).mono fun bs h1 e => ?_)
  obtain ⟨rfl, rfl⟩ := e
  refine Go.bind (Go.lib fun g d k os => wpAny_newFunctionEnv hcell hloc (fun h₀ hns hsb => ⟨rfl, rfl, rfl, ?_⟩) hk)
  rw [← hc]
  refine Go.bind (Go.lib fun g d k os => wpAny_enterFrame (hlim.fresh _ hsb) hroom ⟨rfl, rfl, rfl, ?_⟩)
  refine Go.pure ⟨rfl, GoC.tree rfl ?_⟩
  have F : Fr h1 h1.objs.size h₀ (fun x => bs.reverse.lookup x) := ⟨hns, fun b o e => hsb.extBut b o (Nat.ne_of_lt (Heap.lt_size e)) (Heap.get?_push_of_some _ e), Nat.le_refl _⟩
  show Go w (A.deeper (callEnv fd h1.objs.size a)) (do PySem.point; match ← (execs body (callEnv fd h1.objs.size a)).onRaise (leaving (callEnv fd h1.objs.size a)) with | .ret v => PySem.ret v | _ => PySem.ret .none) h₀ _
  refine Go.bind (Go.point (Go.bind (Go.onRaise ((x h₀ F).mono fun f h2 z => ?_))))
  cases f <;> exact Go.pure z
/-! loops -/
theorem GoC.block0 (x : S .next h) : GoC w A (.block [] env) h S := by
  refine GoC.tree rfl ?_
  show Go w A ((do return Fin.done (← execs [] env)).onRaise (fun x => do noteFrame x env; theTreesLotGoes x)) h _
  exact Go.onRaise (Go.bind (Go.pure (Go.pure x)))
theorem GoC.forG {target : Expr} {it : Value} {body : List Stmt} (I : Nat → Heap → Prop)
    (turn : ∀ n h, I n h → Go w A (pyNext it) h fun r h1 => match r with
      | none => S .next h1
      | some v => Go w A (letOwnedTupleGo target it v) h1 fun _ h2 => Go w A (PySem.assign target env v) h2 fun _ h3 => Go w A (execs body env) h3 fun fl h4 => match fl with | .next | .cont => ∃ m, m < n ∧ I m h4 | .brk => S .next h4 | .ret v => S (.ret v) h4) :
    ∀ n h, I n h → GoC w A (.forLoop target it body [] env) h S := by
  intro n
  induction n using Nat.strongRecOn with
  | ind n ih =>
    intro h hI
    refine GoC.tree rfl ?_
    show Go w A ((forTurn target it body [] env).onRaise (fun x => do noteFrame x env; theTreesLotGoes x)) h _
    refine Go.onRaise ?_
    simp only [forTurn]
    refine Go.bind (Go.standAt (Go.bind (Go.onRaise ((turn n h hI).mono fun r h1 y => ?_))))
    cases r with
    | none => exact Go.pure ⟨rfl, GoC.block0 y⟩
    | some v =>
      refine Go.bind (y.mono fun _ h2 y => Go.bind (y.mono fun _ h3 y => Go.bind (y.mono fun fl h4 z => ?_)))
      cases fl with
      | next => obtain ⟨m, hm, hI⟩ := z; exact Go.pure ⟨rfl, ih m hm h4 hI⟩
      | cont => obtain ⟨m, hm, hI⟩ := z; exact Go.pure ⟨rfl, ih m hm h4 hI⟩
      | brk => exact Go.pure z
      | ret v => exact Go.pure z
theorem GoC.forW {I : Addr} {fp wr : List Addr} {n : Nat} {P : Nat → Value → Prop} {St : Nat → Heap → Prop} {target : Expr} {body : List Stmt} (W : Walks PW w A I fp wr n P St) (J : Nat → Heap → Prop)
    (stable : ∀ i h h', J i h → (∀ b o, b ∉ wr → h.get? b = some o → h'.get? b = some o) → J i h')
    (turn : ∀ i h v, i < n → P i v → St (i + 1) h → J i h → Go w A (PySem.assign target env v) h fun _ h2 => Go w A (execs body env) h2 fun fl h3 => match fl with | .next | .cont => St (i + 1) h3 ∧ J (i + 1) h3 | .brk => S .next h3 | .ret v => S (.ret v) h3)
    (done : ∀ h, J n h → S .next h) (s0 : St 0 h) (j0 : J 0 h) (hgo : ∀ v, letOwnedTupleGo target (.ref I) v = Pure.pure () := by intro _; rfl) : GoC w A (.forLoop target (.ref I) body [] env) h S := by
  refine GoC.forG (fun c h => ∃ i, c = n + 1 - i ∧ i ≤ n ∧ St i h ∧ J i h) (fun c h hI => ?_) (n + 1) h ⟨0, rfl, Nat.zero_le _, s0, j0⟩
  obtain ⟨i, rfl, hi, hst, hj⟩ := hI
  by_cases hlt : i < n
  · refine Go.lib fun g d k os => W.item i _ _ _ hlt hst fun v h1 k1 hv hst1 hk1 => ⟨rfl, rfl, rfl, ?_⟩
    dsimp only
    rw [hgo]
    refine Go.pure ((turn i h1 v hlt hv hst1 (stable _ _ _ hj hk1)).mono fun _ h2 y => y.mono fun fl h3 z => ?_)
    cases fl with
    | next => exact ⟨n + 1 - (i + 1), by omega, i + 1, rfl, hlt, z.1, z.2⟩
    | cont => exact ⟨n + 1 - (i + 1), by omega, i + 1, rfl, hlt, z.1, z.2⟩
    | brk => exact z
    | ret v => exact z
  · have : i = n := by omega
    subst this
    exact Go.lib fun g d k os => W.done _ _ _ hst fun h1 k1 hk1 => ⟨rfl, rfl, rfl, done _ (stable _ _ _ hj hk1)⟩
theorem Go.runOwn {c : Code} (x : GoC w A c h S) : Go w A (PySem.runOwn c env none) h S := by
  unfold PySem.runOwn
  exact Go.onRaise (Go.run x)
theorem Go.for_ {target iter : Expr} {body : List Stmt} {pos : Pos} (x : Go w A (eval iter env) h fun v h1 => Go w A (pyIter v) h1 fun it h2 => GoC w A (.forLoop target it body [] env) h2 S) (hs : ∀ v, foldedSetIterable iter env v = Pure.pure v := by intro _; rfl) : Go w A (exec (.For target iter body [] pos) env) h S := by
  refine Go.bind (Go.standAt (Go.bind (x.mono fun v h1 y => ?_)))
  rw [hs]
  refine Go.bind (Go.pure (Go.bind (Go.standAt ?_)))
  exact Go.bind (Go.holding (y.mono fun it h2 z => Go.runOwn z))
end
end Mine
end
section
open PySem PySem.W PyProof.Rows PySem.Calls
set_option Elab.async false
set_option maxRecDepth 100000
set_option linter.unusedVariables false
namespace Mine
section
variable {w : World} {A : Around} {α β : Type} {h h₀ : Heap} {m : Str → Option Value} {env : Env} {R : Value → Heap → Prop} {S : Flow → Heap → Prop}
theorem Go.ltI {a b : Int} {t u : Tok} (r : R (.bool (decide (a < b))) h) : Go w A (compareOp .Lt (.int a t) (.int b u)) h R := Go.lib fun _ _ _ _ => lt_int ⟨rfl, rfl, rfl, r⟩
theorem Go.geI {a b : Int} {t u : Tok} (r : R (.bool (decide (a ≥ b))) h) : Go w A (compareOp .GtE (.int a t) (.int b u)) h R := Go.lib fun _ _ _ _ => ge_int ⟨rfl, rfl, rfl, r⟩
theorem Go.divI {a b : Int} {t u : Tok} (hb : b ≠ 0) (hp : Builtin.divisionGoesByPylong a b = false) (r : ∀ t, R (.int (a.fdiv b) t) h) : Go w A (binaryOp .FloorDiv (.int a t) (.int b u)) h R := Go.lib fun _ _ _ _ => floordiv_int hb ⟨rfl, rfl, rfl, r _⟩ (.inl hp)
theorem Go.iaddS {x y : Str} {t u : Tok} (hs : x.length + y.length ≤ sizeLine) (r : ∀ t, R (.str (x ++ y) t) h) : Go w A (inplaceOp .Add (.str x t) (.str y u)) h R := Go.lib fun _ _ _ _ => iadd_str (fun _ _ => ⟨rfl, rfl, rfl, r _⟩) hs
theorem Go.inS {x y : Str} {t u : Tok} (r : R (.bool (!(Builtin.Str.occurrences x y 0 x.length 1).isEmpty)) h) : Go w A (compareOp .In (.str y u) (.str x t)) h R := Go.lib fun _ _ _ _ => P.in_str ⟨rfl, rfl, rfl, r⟩
theorem Go.notInS {x y : Str} {t u : Tok} (r : R (.bool (!(!(Builtin.Str.occurrences x y 0 x.length 1).isEmpty))) h) : Go w A (compareOp .NotIn (.str y u) (.str x t)) h R := Go.lib fun _ _ _ _ => P.notIn_str ⟨rfl, rfl, rfl, r⟩
theorem Go.lenS {x : Str} {t : Tok} (hx : x.length ≤ sizeLine) (r : ∀ t, R (.int x.length t) h) : Go w A (PySem.call (.builtin "len") [.str x t]) h R := Go.lib fun _ _ _ _ => P.len_str (by rw [sizeLine_eq] at hx; omega) ⟨rfl, rfl, rfl, r _⟩
theorem Go.lenB {x : Array UInt8} {t : Tok} (hx : x.size ≤ sizeLine) (r : ∀ t, R (.int x.size t) h) : Go w A (PySem.call (.builtin "len") [.bytes x t]) h R := Go.lib fun _ _ _ _ => len_bytes (by rw [sizeLine_eq] at hx; omega) ⟨rfl, rfl, rfl, r _⟩
theorem Go.lenL {l : Addr} {items : Array Value} (hl : h.IsList l items) (hx : items.size ≤ sizeLine) (r : ∀ t, R (.int items.size t) h) : Go w A (PySem.call (.builtin "len") [.ref l]) h R := Go.lib fun _ _ _ _ => len_list hl (by rw [sizeLine_eq] at hx; omega) ⟨rfl, rfl, rfl, r _⟩
theorem Go.chr {i : Int} {t : Tok} (hi : (decide (i < 0) || decide (i > 0x10FFFF)) = false) (r : ∀ t, R (.str ⟨#[i.toNat]⟩ t) h) : Go w A (PySem.call (.builtin "chr") [.int i t]) h R := Go.lib fun _ _ _ _ => P.chr_of_int hi ⟨rfl, rfl, rfl, r _⟩
theorem Go.ord {c : Nat} {t : Tok} (r : ∀ t, R (.int c t) h) : Go w A (PySem.call (.builtin "ord") [.str ⟨#[c]⟩ t]) h R := Go.lib fun _ _ _ _ => P.ord_of_char ⟨rfl, rfl, rfl, r _⟩
/-! displays -/
theorem Go.spZ {pos : Pos} {R : List Value → Heap → Prop} (r : R [] h) : Go w A (spliced (backTo pos (starEach [] env))) h R := Go.spNil r
theorem Go.spE {e : Expr} {rest : List Expr} {pos : Pos} {R : List Value → Heap → Prop} (y : Go w A (eval e env) h fun v h1 => Go w A (spliced (backTo pos (starEach rest env))) h1 fun vs h2 => R (v :: vs) h2) (he : starEach (e :: rest) env = (false, eval e env) :: starEach rest env := by rfl) :
    Go w A (spliced (backTo pos (starEach (e :: rest) env))) h R := by
  rw [he]
  exact Go.spCons y
theorem Go.listE {elts : List Expr} {pos : Pos} (x : Go w A (spliced (backTo pos (starEach elts env))) h fun vs h1 => vs.length ≤ sizeLine ∧ R (.ref h1.objs.size) (h1.push { cls := .type "list", data := .seq vs.toArray })) : Go w A (eval (.List elts pos) env) h R :=
  Go.bind (Go.standAt (Go.bind (x.mono fun vs h1 y => Go.newList y.1 y.2)))
theorem Go.tupleE {elts : List Expr} {k : Nat} {pos : Pos} (x : Go w A (spliced (backTo pos (starEach elts env))) h fun vs h1 => (vs.isEmpty = false ∧ vs.length ≤ sizeLine) ∧ R (.ref h1.objs.size) (h1.push { cls := .type "tuple", data := .seq vs.toArray })) : Go w A (eval (.Tuple elts k pos) env) h R :=
  Go.bind (Go.standAt (Go.bind (x.mono fun vs h1 y => by
    exact Go.newObj y.1.2 y.2)))
/-! methods and subscripts -/
theorem Go.meth {o : Expr} {name : Str} {apos pos : Pos} {args : List Expr} {T id : String} (pa : PlainAttrs T) (slot : Slot T name id) (hty : PySem.typeOf (.builtin id) = Pure.pure (.type "method_descriptor"))
    (x : Go w A (eval o env) h fun ov h1 => TyIs h1 ov T ∧ (∀ a, ov = .ref a → ∃ ob, h1.get? a = some ob ∧ ob.dict = none) ∧ Go w A (callWith pos (.builtin id) [ov] (backTo pos (starEach args env)) []) h1 R)
    (hbase : attributeBase o name env (eval o env) = eval o env := by rfl)
    (hfew : ((backTo pos (starEach args env)).all (fun x => !x.1) && (backToKw pos (keywordEach [] env)).all (fun x => x.1.isSome) && decide (args.length + ([] : List Keyword).length + (if ([] : List Keyword).isEmpty then 0 else 1) < 30)) = true := by rfl)
    (hline : (apos.endLine == pos.line) = true := by rfl) : Go w A (eval (.Call (.Attribute o name apos) args [] pos) env) h R := by
  rw [arm_eval_Call, hbase]
  refine Go.bind (x.mono fun ov h1 y => Go.bind (Go.standAt ?_))
  obtain ⟨hT, hd, hc⟩ := y
  have hform : methodCallForm (args.length + ([] : List Keyword).length) (backTo pos (starEach args env)) (backToKw pos (keywordEach [] env)) = true := hfew
  have hpos : methodCallPos true o env apos pos = Pure.pure pos := by unfold methodCallPos; simp [hline]
  unfold methodCall
  rw [hform]
  refine Go.bind (Go.holding (Go.getMethod hT pa slot hty hd ?_))
  exact Go.bind (Go.eq hpos (Go.pure hc))
theorem TyIs.ne {v : Value} {T : String} (x : TyIs h v T) : v ≠ .builtin "sys.modules#opaque" := (x.at (g := #[]) (d := {}) (k := 0) (os := {})).not_modules
theorem Go.sub {value slice : Expr} {pos : Pos} (x : Go w A (eval value env) h fun o h1 => Go w A (eval slice env) h1 fun i h2 => ∃ (T id : String) (ops : List Value), TyIs h2 o T ∧ typeLookup (.type T) "__getitem__" = Pure.pure (some (.builtin id)) ∧ subscripted slice false o i = PySem.operate ops (getItem o i) ∧
    Go w A (getItem o i) h2 fun r h3 => Go w A (letTemporaryGo value o r) h3 fun _ h4 => R r h4) : Go w A (eval (.Subscript value slice pos) env) h R := by
  refine Go.bind (x.mono fun o h1 y => Go.bind (Go.holding (y.mono fun i h2 z => Go.bind (Go.standAt ?_))))
  obtain ⟨T, id, ops, hT, hl, hs, g⟩ := z
  refine Go.bind ?_
  rw [getitemInPython_of_ne hT.ne]
  refine Go.bind (Go.specialOf hT hl (Go.pure ?_))
  rw [hs]
  exact Go.bind (Go.operate (g.mono fun r h3 e => Go.bind (e.mono fun _ h4 q => Go.pure q)))
theorem Go.noTemp {value : Expr} {o r : Value} {R : Unit → Heap → Prop} (q : R () h) (e : letTemporaryGo value o r = Pure.pure () := by rfl) : Go w A (letTemporaryGo value o r) h R := Go.eq e (Go.pure q)
theorem Go.temp {value : Expr} {a : Addr} {r : Value} {R : Unit → Heap → Prop} (q : R () h) (e : letTemporaryGo value (.ref a) r = (do let _ ← PySem.holding [r] (PySem.runValue (.builtin "proto.let_go" {}))) := by rfl) : Go w A (letTemporaryGo value (.ref a) r) h R :=
  Go.eq e (Go.bind (Go.holding (Go.runValue (GoC.entry (by decide +kernel) plain_let_go entry_let_go (Go.ret (Go.pure q))))))
theorem Go.itemS {x : Str} {i : Int} {c : Nat} {t u : Tok} (h0 : 0 ≤ i) (hx : x.length ≤ sizeLine) (hc : x.cps[i.toNat]? = some c) (r : ∀ t, R (.str ⟨#[c]⟩ t) h) : Go w A (getItem (.str x t) (.int i u)) h R := Go.lib fun _ _ _ _ => by
  have hlt : i.toNat < x.length := (Array.getElem?_eq_some_iff.mp hc).1
  rw [sizeLine_eq] at hx
  refine P.getItem_str (c := c) ?_ ?_ ⟨rfl, rfl, rfl, r _⟩
  · simp only [Bool.or_eq_false_iff, decide_eq_false_iff_not]; omega
  · have hn : ¬ i < 0 := by omega
    have h1 : i < x.length := by omega
    simp [seqIndex?, hn, h0, h1, hc]
theorem Go.subS {value slice : Expr} {pos : Pos} (x : Go w A (eval value env) h fun o h1 => Go w A (eval slice env) h1 fun i h2 => ∃ x t i' u c, o = .str x t ∧ i = .int i' u ∧ 0 ≤ i' ∧ x.length ≤ sizeLine ∧ x.cps[i'.toNat]? = some c ∧ ∀ t, R (.str ⟨#[c]⟩ t) h2)
    (hs : ∀ o i, subscripted slice false o i = PySem.operate [o, i] (getItem o i) := by intro _ _; rfl) (hg : ∀ x t r, letTemporaryGo value (.str x t) r = Pure.pure () := by intro _ _ _; rfl) : Go w A (eval (.Subscript value slice pos) env) h R :=
  Go.sub (x.mono fun o h1 y => y.mono fun i h2 ⟨x, t, i', u, c, e1, e2, h0, hx, hc, r⟩ => by
    subst e1 e2
    exact ⟨"str", _, _, rfl, F.slot_str_getitem.lookup, hs _ _, Go.itemS h0 hx hc fun t => Go.noTemp (r t) (hg _ _ _)⟩)
theorem isList_ty {l : Addr} {items : Array Value} (hl : h.IsList l items) : TyIs h (.ref l) "list" := by
  obtain ⟨o, ho, hc, _⟩ := hl
  exact ⟨o, ho, hc⟩
theorem Go.itemL {l : Addr} {items : Array Value} {k : Int} {v : Value} {t : Tok} (hl : h.IsList l items) (h0 : 0 ≤ k) (hx : items[k.toNat]? = some v) (hz : items.size ≤ sizeLine) (r : R v h) : Go w A (getItem (.ref l) (.int k t)) h R := Go.lib fun _ _ _ _ => by
  have hlt : k.toNat < items.size := (Array.getElem?_eq_some_iff.mp hx).1
  rw [sizeLine_eq] at hz
  exact wpAny_getItem_list hl h0 (by omega) hx ⟨rfl, rfl, rfl, r⟩
theorem Go.sliceE {lower upper step : Option Expr} {p : Pos} (x : Go w A (valueOrNone (evalOpt lower env)) h fun l h1 => Go w A (valueOrNone (evalOpt upper env)) h1 fun u h2 => Go w A (valueOrNone (evalOpt step env)) h2 fun s h3 => R (.ref h3.objs.size) (h3.push { cls := .type "slice", data := .fields #[l, u, s] })) :
    Go w A (eval (.Slice lower upper step p) env) h R :=
  Go.bind (x.mono fun l h1 y => Go.bind (Go.holding (y.mono fun u h2 z => Go.bind (Go.holding (z.mono fun s h3 q => Go.newObj (by show 3 ≤ sizeLine + 2; rw [sizeLine_eq]; decide) q)))))
theorem Go.sliceL {l sl : Addr} {items : Array Value} {vl vu vs : Value} {lo hi st : Option Int} (hl : h.IsList l items) (hs : h.IsSliceOf sl vl vu vs) (pl : IsPart vl lo) (pu : IsPart vu hi) (ps : IsPart vs st) (h0 : st ≠ some 0) (hz : items.size ≤ sizeLine)
    (r : R (.ref h.objs.size) (h.push { cls := .type "list", data := .seq (slicePick items lo hi st) })) : Go w A (getItem (.ref l) (.ref sl)) h R := Go.lib fun _ _ _ _ => wpAny_getItem_list_slice hl hs pl pu ps h0 ⟨rfl, rfl, rfl, r⟩ hz
theorem Go.addL {l b : Addr} {vs ws : List Value} (hl : h.IsList l vs.toArray) (hb : h.IsList b ws.toArray) (hz : vs.length + ws.length ≤ sizeLine) (r : R (.ref h.objs.size) (h.push { cls := .type "list", data := .seq (vs ++ ws).toArray })) : Go w A (binaryOp .Add (.ref l) (.ref b)) h R := Go.lib fun g d k os => by
  obtain ⟨⟨c1, d1, x1, s1⟩, g1, rfl, n1, rfl⟩ := hl
  obtain ⟨⟨c2, d2, x2, s2⟩, g2, rfl, n2, rfl⟩ := hb
  refine concat_meets ⟨_, g1, rfl⟩ ⟨_, g2, rfl⟩ noFill_list_add seq_list_add PySem.F.slot_list_add PySem.F.entry_list_add (PySem.F.args_list_add_2 _ _) (list_addW l b vs.toArray ws.toArray n1 n2 d1 d2 s1 s2 (by simpa using hz)) ⟨g1, g2, ?_⟩
  rw [List.append_toArray]
  exact ⟨rfl, rfl, rfl, r⟩
end
end Mine
end
section
open PySem PySem.W PyProof.Rows PySem.Calls
set_option Elab.async false
set_option maxRecDepth 100000
set_option linter.unusedVariables false
set_option maxHeartbeats 0
namespace Mine
def bd (i : Nat) : List Stmt := match PW.main.body[i]? with | some (.FunctionDef _ _ body ..) => body | _ => []
abbrev GV (R : Value → Heap → Prop) : Flow → Heap → Prop := fun f h' => R (match f with | .ret v => v | _ => .none) h'
section
variable {w : World} {A : Around} {h : Heap} {R : Value → Heap → Prop}
theorem fnd_code {i : Nat} {c : Addr} {dv pm : Value} : (fnd i c dv pm).code = .ref c := by unfold fnd; split <;> rfl
theorem Go.enterT {i : Nat} {a c : Addr} {dv pm : Value} {body : List Stmt} {args : List Value} {binds : List (Str × Value)} (T : TF h) (hroom : A.depth < recursionLimit) (x : ∀ h₁, TF h₁ → Fr h h.objs.size h₁ (fun x => binds.reverse.lookup x) → Go w (A.deeper (callEnv (fnd i c dv pm) h.objs.size a)) (execs body (callEnv (fnd i c dv pm) h.objs.size a)) h₁ (GV R))
    (hm : ∃ n : Nat, objTab[n]? = some (a, fnO i c dv pm)) (hcd : ∃ n : Nat, codeTab[n]? = some ((c, (fnd i c dv pm).qualname) : Addr × Str)) (hbody : (fnd i c dv pm).body = .stmts body)
    (hb : ∀ s : Shared, s.heap = h → BindsTo s (fnd i c dv pm) ⟨args, []⟩ binds) (hcell : ∀ x ∈ (fnd i c dv pm).scope.names, x.2 ≠ .cell) (hloc : ∀ x ∈ binds, (fnd i c dv pm).scope.names.lookup x.1 = some .local)
    (hco : (fnd i c dv pm).scope.isCoroutine = false) (hgen : (fnd i c dv pm).scope.isGenerator = false) (hk : (fnd i c dv pm).scope.kind = .function) : Go w A (PySem.call (.ref a) args []) h R :=
  Go.enter hroom (let ⟨n, e⟩ := hm; T.objs _ (List.mem_of_getElem? e)) rfl T.lim (by obtain ⟨n, e⟩ := hcd; rw [fnd_code]; exact T.codes _ (List.mem_of_getElem? e)) hbody hb hcell hloc (fun h₁ F => x h₁ (T.keeps F.keep) F) hco hgen hk
end
def usual : List Int := [40, 2897, 2, 59, 20, 261, 846, 50340, 995335, 6, 133, 8]
theorem small {α : Type} {l : List α} (n : Nat) (e : l.length = n) (hn : n ≤ 1000000) : l.length ≤ sizeLine := by rw [e, sizeLine_eq]; omega
theorem isNew {h : Heap} {vs : List Value} : (h.push { cls := .type "list", data := .seq vs.toArray }).IsList h.objs.size vs.toArray := ⟨_, Heap.get?_push_size _ rfl, rfl, _, rfl⟩
/-- a fresh list of ints -/
def NewInts (h : Heap) (ns : List Int) : Value → Heap → Prop := fun v h' => Kp h h' ∧ ∃ l vs, v = .ref l ∧ h'.IsList l vs.toArray ∧ IntsAre vs ns
theorem newInts {h h1 : Heap} {L : Addr} {m : Str → Option Value} {vs : List Value} {ns : List Int} (F : Fr h L h1 m) (hi : IntsAre vs ns) : NewInts h ns (.ref h1.objs.size) (h1.push { cls := .type "list", data := .seq vs.toArray }) := ⟨(F.push _).keep, _, _, rfl, isNew, hi⟩
section
variable {w : World} {A : Around} {h : Heap}
theorem usual_spec (T : TF h) (hroom : A.depth < recursionLimit) : Go w A (PySem.call (.ref 67) []) h (NewInts h usual) := by
  refine Go.enterT (i := 9) (c := 66) (dv := .none) (pm := .str (strOf 8) 523) (body := bd 9) (binds := []) T hroom (fun h₁ T₁ F => ?_) ⟨3, by kernel_rfl⟩ ⟨3, by kernel_rfl⟩ (by kernel_rfl) (fun s e => .of_eq (by kernel_rfl)) (by decide +kernel) (by decide +kernel) (by kernel_rfl) (by kernel_rfl) (by kernel_rfl)
  refine Go.cons_eq rfl ?_
  refine Go.cons (Go.return_ (Go.listE ?_))
  iterate 12 refine Go.spE (Go.cInt fun _ => ?_)
  exact Go.spZ ⟨small 12 rfl (by decide), newInts F (by repeat constructor)⟩
end
def octs (p : Int) : List Int :=
  if p < 128 then [p] else if p < 2048 then [192 + p.fdiv 64, 128 + p.fmod 64] else if p < 65536 then [224 + p.fdiv 4096, 128 + (p.fdiv 64).fmod 64, 128 + p.fmod 64]
  else [240 + p.fdiv 262144, 128 + (p.fdiv 4096).fmod 64, 128 + (p.fdiv 64).fmod 64, 128 + p.fmod 64]
section
variable {w : World} {A : Around} {h : Heap}
local macro_rules | `(tactic| walk_at "ints") => `(tactic| first | with_reducible refine Go.cInt fun _ => ?_ | with_reducible refine Go.binop ?_ | with_reducible refine Go.addI fun _ => ?_ | (with_reducible refine Go.divI ?_ ?_ fun _ => ?_; decide; exact PyProof.noPylong_of_log2 (by decide +kernel)) | (with_reducible refine Go.modI ?_ fun _ => ?_; decide) | refine Go.spE ?_)
theorem octets_spec (T : TF h) (hroom : A.depth < recursionLimit) (p : Int) (t : Tok) : Go w A (PySem.call (.ref 74) [.int p t]) h (NewInts h (octs p)) := by
  refine Go.enterT (i := 13) (c := 73) (dv := .none) (pm := .str (strOf 8) 523) (body := bd 13) (binds := [(Str.ofString "point", .int p t)]) T hroom (fun h₁ T₁ F => ?_) ⟨4, by kernel_rfl⟩ ⟨4, by kernel_rfl⟩ (by kernel_rfl) (fun s e => .of_eq (by kernel_rfl)) (by decide +kernel) ?_ (by kernel_rfl) (by kernel_rfl) (by kernel_rfl)
  · refine Go.cons_eq rfl (Go.cons (Go.if_ (Go.isTCompare (Go.nameL (v := .int p t) F (by kernel_rfl) (Go.cInt fun _ => Go.ltI ⟨_, rfl, ?_⟩)))))
    by_cases h1 : p < 128
    · rw [if_pos (decide_eq_true h1)]
      refine Go.cons (Go.return_ (Go.listE (Go.spE (Go.nameL (v := .int p t) F (by kernel_rfl) (Go.spZ ⟨small 1 rfl (by decide), ?_⟩)))))
      exact newInts F (by rw [octs, if_pos h1]; repeat constructor)
    rw [if_neg (fun e => h1 (of_decide_eq_true e))]
    refine Go.nil (Go.cons (Go.if_ (Go.isTCompare (Go.nameL (v := .int p t) F (by kernel_rfl) (Go.cInt fun _ => Go.ltI ⟨_, rfl, ?_⟩)))))
    by_cases h2 : p < 2048
    · rw [if_pos (decide_eq_true h2)]
      refine Go.cons (Go.return_ (Go.listE ?_))
      repeat first | with_reducible refine Go.nameL (v := .int p t) F (by kernel_rfl) ?_ | walk_at "ints"
      exact Go.spZ ⟨small 2 rfl (by decide), newInts F (by rw [octs, if_neg h1, if_pos h2]; repeat constructor)⟩
    rw [if_neg (fun e => h2 (of_decide_eq_true e))]
    refine Go.nil (Go.cons (Go.if_ (Go.isTCompare (Go.nameL (v := .int p t) F (by kernel_rfl) (Go.cInt fun _ => Go.ltI ⟨_, rfl, ?_⟩)))))
    by_cases h3 : p < 65536
    · rw [if_pos (decide_eq_true h3)]
      refine Go.cons (Go.return_ (Go.listE ?_))
      repeat first | with_reducible refine Go.nameL (v := .int p t) F (by kernel_rfl) ?_ | walk_at "ints"
      exact Go.spZ ⟨small 3 rfl (by decide), newInts F (by rw [octs, if_neg h1, if_neg h2, if_pos h3]; repeat constructor)⟩
    rw [if_neg (fun e => h3 (of_decide_eq_true e))]
    refine Go.nil (Go.cons (Go.return_ (Go.listE ?_)))
    repeat first | with_reducible refine Go.nameL (v := .int p t) F (by kernel_rfl) ?_ | walk_at "ints"
    exact Go.spZ ⟨small 4 rfl (by decide), newInts F (by rw [octs, if_neg h1, if_neg h2, if_neg h3]; repeat constructor)⟩
  · intro x hx
    cases hx with
    | head => kernel_rfl
    | tail _ h => cases h
end
end Mine
end
section
open PySem PySem.W PyProof.Rows PySem.Calls
set_option Elab.async false
set_option maxRecDepth 100000
set_option linter.unusedVariables false
namespace Mine
abbrev Kx (ex : List Addr) (h h' : Heap) : Prop := ∀ b o, b ∉ ex → h.get? b = some o → h'.get? b = some o
theorem Kx.rfl {ex : List Addr} {h : Heap} : Kx ex h h := fun _ _ _ e => e
theorem Kx.trans {ex : List Addr} {h h' h'' : Heap} (a : Kx ex h h') (b : Kx ex h' h'') : Kx ex h h'' := fun x o n e => b x o n (a x o n e)
theorem Kp.kx {ex : List Addr} {h h' : Heap} (k : Kp h h') : Kx ex h h' := fun b o _ e => k b o e
theorem sb_kx {ex : List Addr} {L : Addr} {h h' : Heap} (hs : Heap.SameBut L h h') (hL : L ∈ ex) : Kx ex h h' := fun b o n e => (hs.2 b fun q => n (q ▸ hL)).trans e
theorem eb_kx {ex : List Addr} {L : Addr} {h h' : Heap} (hs : Heap.ExtBut L h h') (hL : h.objs.size ≤ L) : Kx ex h h' := fun b o n e => hs b o (Nat.ne_of_lt (Nat.lt_of_lt_of_le (Heap.lt_size e) hL)) e
theorem push_kp (h : Heap) (o : Obj) : Kp h (h.push o) := fun _ _ e => Heap.get?_push_of_some o e
theorem fr_kx {h₀ h h' : Heap} {L : Addr} {m : Str → Option Value} {ex : List Addr} (F : Fr h₀ L h m) (k : Kx ex h h') (hL : L ∉ ex) (h0 : ∀ b ∈ ex, h₀.get? b = none) : Fr h₀ L h' m :=
  ⟨F.ns.at fun o e => k _ _ hL e, fun b o e => k _ _ (fun hb => by rw [h0 b hb] at e; cases e) (F.keep b o e), F.above⟩
theorem noneAt {h : Heap} {a : Addr} (ha : h.objs.size ≤ a) : h.get? a = none := Heap.get?_none_of_le ha
section
variable {w : World} {A : Around} {α β : Type} {h h₀ : Heap} {m : Str → Option Value} {env : Env} {R : Value → Heap → Prop} {S : Flow → Heap → Prop}
theorem GoC.forN {I : Addr} {fp wr ex : List Addr} {n : Nat} {P : Nat → Value → Prop} {St : Nat → Heap → Prop} {target : Expr} {body : List Stmt} (W : Walks PW w A I fp wr n P St) (J : Nat → Heap → Prop) (hex : ∀ b ∈ fp, b ∉ ex)
    (stable : ∀ i h h', J i h → Kx wr h h' → J i h')
    (turn : ∀ i h v, i < n → P i v → J i h → Go w A (PySem.assign target env v) h fun _ h2 => Go w A (execs body env) h2 fun fl h3 => match fl with | .next | .cont => Kx ex h h3 ∧ J (i + 1) h3 | .brk => S .next h3 | .ret v => S (.ret v) h3)
    (done : ∀ h, J n h → S .next h) (s0 : St 0 h) (j0 : J 0 h) (hgo : ∀ v, letOwnedTupleGo target (.ref I) v = Pure.pure () := by intro _; rfl) : GoC w A (.forLoop target (.ref I) body [] env) h S := by
  refine GoC.forW W J stable (fun i h v hi hp hst hj => ?_) done s0 j0 hgo
  refine (turn i h v hi hp hj).mono fun _ h2 y => y.mono fun fl h3 z => ?_
  cases fl with
  | next => exact ⟨W.frame _ _ _ hst fun b hb o e => z.1 b o (hex b hb) e, z.2⟩
  | cont => exact ⟨W.frame _ _ _ hst fun b hb o e => z.1 b o (hex b hb) e, z.2⟩
  | brk => exact z
  | ret v => exact z
theorem GoC.forT {I : Addr} {fp wr ex : List Addr} {n : Nat} {Pt : Nat → Array Value → Prop} {St : Nat → Heap → Prop} {Mid : Nat → Addr → Heap → Prop} {elts : List Expr} {kk : Nat} {pos : Pos} {body : List Stmt} (W : WalksT PW w A I fp wr n Pt St Mid) (J : Nat → Heap → Prop) (hex : ∀ b ∈ fp, b ∉ ex)
    (stable : ∀ i h h', J i h → Kx wr h h' → J i h')
    (turn : ∀ i h T vals, i < n → Pt i vals → h.IsTuple T vals → J i h → Go w A (PySem.assign (.Tuple elts kk pos) env (.ref T)) h fun _ h2 => Go w A (execs body env) h2 fun fl h3 => match fl with | .next | .cont => Kx ex h h3 ∧ J (i + 1) h3 | .brk => S .next h3 | .ret v => S (.ret v) h3)
    (done : ∀ h, J n h → S .next h) (s0 : St 0 h) (j0 : J 0 h) : GoC w A (.forLoop (.Tuple elts kk pos) (.ref I) body [] env) h S := by
  refine GoC.forG (fun c h => ∃ i, c = n + 1 - i ∧ i ≤ n ∧ St i h ∧ J i h) (fun c h hI => ?_) (n + 1) h ⟨0, rfl, Nat.zero_le _, s0, j0⟩
  obtain ⟨i, rfl, hi, hst, hj⟩ := hI
  by_cases hlt : i < n
  · refine Go.lib fun g d k os => W.item i _ _ _ hlt hst fun T vals h1 k1 hv hT hT1 hmid hk1 => ⟨rfl, rfl, rfl, ?_⟩
    dsimp only
    refine Go.lib fun g d k os => W.go elts kk pos i T _ _ _ hmid fun h2 hst2 hk2 => ⟨rfl, rfl, rfl, ?_⟩
    have hT2 : h2.IsTuple T vals := by
      obtain ⟨o, ho, r⟩ := hT1
      exact ⟨o, hk2 _ _ (W.apart _ _ _ hmid) ho, r⟩
    refine (turn i h2 T vals hlt hv hT2 (stable _ _ _ (stable _ _ _ hj hk1) hk2)).mono fun _ h3 y => y.mono fun fl h4 z => ?_
    cases fl with
    | next => exact ⟨n + 1 - (i + 1), by omega, i + 1, rfl, hlt, W.frame _ _ _ hst2 fun b hb o e => z.1 b o (hex b hb) e, z.2⟩
    | cont => exact ⟨n + 1 - (i + 1), by omega, i + 1, rfl, hlt, W.frame _ _ _ hst2 fun b hb o e => z.1 b o (hex b hb) e, z.2⟩
    | brk => exact z
    | ret v => exact z
  · have : i = n := by omega
    subst this
    exact Go.lib fun g d k os => W.done _ _ _ hst fun h1 k1 hk1 => ⟨rfl, rfl, rfl, done _ (stable _ _ _ hj hk1)⟩
theorem Go.unpack2 {ta : Addr} {items : Array Value} {R : List Value → Heap → Prop} {n : Nat} (hh : A.handled = none) (hT : IsTup h ta items) (hn : n = items.size) (r : ∀ h', Kp h h' → R items.toList h') : Go w A (unpackItems (.ref ta) n none) h R := Go.lib fun g d k os => by
  subst hn
  exact unpackItems_tuple hh hT fun h' he => ⟨rfl, rfl, rfl, r h' fun b o e => he b o (Nat.ne_of_lt (Heap.lt_size e)) e⟩
theorem Go.inOrder2 {t1 t2 : Value → Sem Unit} {a b : Value} {R : Unit → Heap → Prop} (x : Go w A (t1 a) h fun _ h1 => Go w A (t2 b) h1 R) : Go w A (assignInOrder [t1, t2] [a, b]) h R :=
  Go.bind (Go.holding (x.mono fun _ h1 y => Go.bind (Go.holding (y.mono fun _ h2 z => Go.pure z))))
theorem Go.assign2 {x y : Str} {p1 p2 pos : Pos} {kk : Nat} {T : Addr} {a b : Value} {R : Unit → Heap → Prop} (hh : A.handled = none) (hT : h.IsTuple T #[a, b]) (F : Fr h₀ env.locals h m)
    (r : ∀ h', Fr h₀ env.locals h' (upd (upd m x a) y b) → Kx [env.locals] h h' → R () h') (hx : env.kindOf x = some .local := by kernel_rfl) (hy : env.kindOf y = some .local := by kernel_rfl)
    (hp : (env.scope.kind == .class || (env.scope.kind == .module && env.locals != env.globals)) = false := by kernel_rfl) : Go w A (PySem.assign (.Tuple [.Name x p1, .Name y p2] kk pos) env (.ref T)) h R := by
  rw [arm_assign_Tuple]
  refine Go.bind (Go.standAt ?_)
  unfold PySem.unpack
  refine Go.bind (Go.holding (Go.unpack2 hh hT rfl fun h1 k1 => ?_))
  refine Go.inOrder2 (Go.assignName (fr_kp F k1) (fun h2 F2 hs2 => Go.assignName F2 (fun h3 F3 hs3 => ?_) hy hp) hx hp)
  exact r _ F3 ((Kp.kx k1).trans ((sb_kx hs2 (List.mem_cons_self ..)).trans (sb_kx hs3 (List.mem_cons_self ..))))
theorem Go.iterS {x : Str} {t : Tok} (r : ∀ (o : Obj) (St : Nat → Heap → Prop), (∀ A' : Around, A'.handled = none → Walks PW w A' h.objs.size [h.objs.size] [h.objs.size] x.cps.size (SignAt x) St) → St 0 (h.push o) → R (.ref h.objs.size) (h.push o)) : Go w A (pyIter (.str x t)) h R := Go.lib fun _ _ _ _ =>
  wpAny_pyIter_str fun o St W s0 => ⟨rfl, rfl, rfl, r o St W s0⟩
theorem Go.iterL {l : Addr} {items : Array Value} (hl : h.IsList l items) (r : R (.ref h.objs.size) (h.push { cls := .type "list_iterator", data := .fields #[.ref l, .int 0 0] })) : Go w A (pyIter (.ref l)) h R := Go.lib fun _ _ _ _ => wpAny_pyIter_list hl ⟨rfl, rfl, rfl, r⟩
theorem Go.enumS {x : Str} {t : Tok} (hh : A.handled = none) (r : ∀ h' (St : Nat → Heap → Prop) (Mid : Nat → Addr → Heap → Prop), Kp h h' → WalksT PW w A (h.objs.size + 1) [h.objs.size + 1, h.objs.size] [h.objs.size + 1, h.objs.size] x.cps.size (fun i vals => ∃ t v, SignAt x i v ∧ vals = #[.int i t, v]) St Mid → St 0 h' → TyIs h' (.ref (h.objs.size + 1)) "enumerate" → R (.ref (h.objs.size + 1)) h') :
    Go w A (PySem.call (.type "enumerate") [.str x t]) h R := Go.lib fun _ _ _ _ =>
  call_enumerate_str fun h' he hi hz hk => by
    refine ⟨rfl, rfl, rfl, ?_⟩
    have n1 : h.objs.size + 1 ≠ h.objs.size := by omega
    have ty : TyIs h' (.ref (h.objs.size + 1)) "enumerate" := ⟨_, he, rfl⟩
    cases ha : x.cps.all (· < 128)
    · rw [strIterType, ha] at hi
      exact r h' _ _ hk (WalksT.enumerateD (Draws.strWide (A := A.in1) hh h.objs.size x t) (h.objs.size + 1) n1 (by simp) (by simp)) ⟨⟨_, he⟩, hi⟩ ty
    · rw [strIterType, ha] at hi
      exact r h' _ _ hk (WalksT.enumerateD (Draws.strAscii (A := A.in1) hh h.objs.size x t) (h.objs.size + 1) n1 (by simp) (by simp)) ⟨⟨_, he⟩, hi⟩ ty
theorem Go.iterE {e : Addr} (hT : TyIs h (.ref e) "enumerate") (r : R (.ref e) h) : Go w A (pyIter (.ref e)) h R := Go.lib fun g d k os => by
  have ty : (⟨h, g, d, k, os⟩ : Shared).TypeIs (.ref e) "enumerate" := hT.at
  refine wpAny_pyIter_slot ty PySem.F.slot_enumerate_iter (wpAny_call_entry PySem.F.slot_enumerate_iter ty PySem.F.entry_enumerate_iter ?_ (PySem.F.args_enumerate_iter_1 _))
  show wpAny _ _ (PySem.ret (.ref e)) _ _ _
  exact wpAny_pure ⟨_, rfl, "enumerate", _, ty, PySem.F.slot_enumerate_next.lookup, rfl, rfl, rfl, r⟩
end
end Mine
end
section
open PySem PySem.W PyProof.Rows PySem.Calls
set_option Elab.async false
set_option maxRecDepth 100000
set_option linter.unusedVariables false
set_option maxHeartbeats 0
namespace Mine
abbrev nText : Str := Str.ofString "text"
theorem pct : Str.ofString "%" = ⟨#[37]⟩ := by kernel_rfl
abbrev nPlace : Str := Str.ofString "place"
abbrev nSign : Str := Str.ofString "sign"
def hexN (c : Nat) : Bool := decide (c ∈ hexS.cps.toList)
def okAt (x : List Nat) (i : Nat) : Bool := x[i]? != some 37 || (match x[i + 1]?, x[i + 2]? with | some a, some b => hexN a && hexN b | _, _ => false)
def begun (x : List Nat) : Bool := (List.range x.length).all (okAt x)
theorem begun_false {x : List Nat} {i : Nat} (hi : i < x.length) (e : okAt x i = false) : begun x = false := by
  unfold begun
  rw [Bool.eq_false_iff, ne_eq, List.all_eq_true]
  exact fun H => by rw [H i (List.mem_range.mpr hi)] at e; cases e
theorem begun_true {x : List Nat} (e : ∀ j < x.length, okAt x j = true) : begun x = true := by
  unfold begun
  rw [List.all_eq_true]
  exact fun j hj => e j (List.mem_range.mp hj)
theorem ap2 {b n L : Nat} (hb : b ∈ [n + 1, n]) (hL : L < n) : b ∉ [L] := by simp only [List.mem_cons, List.not_mem_nil, or_false] at hb ⊢; omega
theorem ap2' {n L : Nat} (hL : L < n) : L ∉ [n + 1, n] := by simp only [List.mem_cons, List.not_mem_nil, or_false]; omega
theorem ge2 {b n L : Nat} (hb : b ∈ [n + 1, n]) (hL : L < n) : L ≤ b := by simp only [List.mem_cons, List.not_mem_nil, or_false] at hb; omega
theorem ap1 {b n L : Nat} (hb : b ∈ [n]) (hL : L < n) : b ∉ [L] := by simp only [List.mem_cons, List.not_mem_nil, or_false] at hb ⊢; omega
theorem ap1' {n L : Nat} (hL : L < n) : L ∉ [n] := by simp only [List.mem_cons, List.not_mem_nil, or_false]; omega
theorem ge1 {b n L : Nat} (hb : b ∈ [n]) (hL : L < n) : L ≤ b := by simp only [List.mem_cons, List.not_mem_nil, or_false] at hb; omega
theorem beq1 (c d : Nat) : ((⟨#[c]⟩ : Str) == ⟨#[d]⟩) = decide (c = d) := by
  by_cases e : c = d
  · subst e; rw [decide_eq_true rfl]; exact beq_self_eq_true _
  · rw [decide_eq_false e]
    rw [beq_eq_false_iff_ne, ne_eq, Str.mk.injEq]
    intro q
    exact e (by simpa using q)
section
variable {w : World} {A : Around} {h h₀ : Heap}
theorem Go.notIn1 {x : Str} {c : Nat} {t u : Tok} {R : Value → Heap → Prop} (r : R (.bool (!decide (c ∈ x.cps.toList))) h) : Go w A (compareOp .NotIn (.str ⟨#[c]⟩ u) (.str x t)) h R := Go.notInS (by rw [StrLaws.found_one]; exact r)
theorem Go.in1 {x : Str} {c : Nat} {t u : Tok} {R : Value → Heap → Prop} (r : R (.bool (decide (c ∈ x.cps.toList))) h) : Go w A (compareOp .In (.str ⟨#[c]⟩ u) (.str x t)) h R := Go.inS (by rw [StrLaws.found_one]; exact r)
theorem begun_spec (T : TF h) (hroom : A.depth < recursionLimit) (hh : A.handled = none) (x : Str) (t : Tok) (hx : x.length ≤ sizeLine) : Go w A (PySem.call (.ref 81) [.str x t]) h fun v h' => Kp h h' ∧ v = .bool (begun x.cps.toList) := by
  refine Go.enterT (i := 14) (c := 80) (dv := .none) (pm := .str (strOf 8) 523) (body := bd 14) (binds := [(nText, .str x t)]) T hroom (fun h₁ T₁ F => ?_) ⟨5, by kernel_rfl⟩ ⟨5, by kernel_rfl⟩ (by kernel_rfl) (fun s e => .of_eq (by kernel_rfl)) (by decide +kernel) ?_ (by kernel_rfl) (by kernel_rfl) (by kernel_rfl)
  · have hh' : (A.deeper (callEnv (fnd 14 80 Value.none (Value.str (strOf 8) 523)) h.objs.size 81)).handled = none := hh
    generalize A.deeper (callEnv (fnd 14 80 Value.none (Value.str (strOf 8) 523)) h.objs.size 81) = A' at hh' ⊢
    have L₁ : h.objs.size < h₁.objs.size := F.ns.lt
    refine Go.cons_eq rfl (Go.cons (Go.for_ ?_))
    refine Go.callE (Go.nameB T₁ (v := .type "enumerate") (Go.cwT (Go.spE (Go.nameL F (v := .str x t) (by kernel_rfl) (Go.spZ (Go.enumS hh' fun h₂ St Mid k2 W s0 ty => Go.iterE ty ?_))))))
    refine GoC.forT (ex := [h.objs.size]) W (fun i h' => ∃ m, Fr h h.objs.size h' m ∧ m nText = some (.str x t) ∧ ∀ j < i, okAt x.cps.toList j = true) ?_ ?_ ?_ ?_ s0 ⟨_, fr_kp F k2, by kernel_rfl, fun j hj => absurd hj (Nat.not_lt_zero j)⟩
    · exact fun b hb => ap2 hb L₁
    · rintro i g g' ⟨m, Fg, hm, hj⟩ k
      exact ⟨m, fr_kx Fg k (ap2' L₁) fun b hb => noneAt (ge2 hb L₁), hm, hj⟩
    · rintro i g ta vals hi ⟨u, v, ⟨c, u', hc, rfl⟩, rfl⟩ hT ⟨m, Fg, hm, hj⟩
      refine Go.assign2 hh' hT Fg fun g2 F2 k => ?_
      have Tg := T.keeps F2.keep
      refine Go.cons_eq rfl (Go.cons (Go.if_ (Go.isTCompare (Go.nameL F2 (v := .str ⟨#[c]⟩ u') (by kernel_rfl) (Go.cStr fun _ => Go.eqS ⟨_, rfl, ?_⟩)))))
      rw [pct, beq1]
      have hlen : i < x.cps.toList.length := by simpa using hi
      have hci : x.cps.toList[i]? = some c := by simpa using hc
      have ml : ∀ a b, upd (upd m nPlace a) nSign b nText = some (.str x t) := fun a b => (upd_ne (by decide +kernel)).trans ((upd_ne (by decide +kernel)).trans hm)
      have mp : ∀ a b, upd (upd m nPlace a) nSign b nPlace = some a := fun a b => (upd_ne (by decide +kernel)).trans (upd_eq _ _ _)
      have next : okAt x.cps.toList i = true → ∀ j < i + 1, okAt x.cps.toList j = true := fun e j hj' => by
        rcases Nat.lt_succ_iff_lt_or_eq.mp hj' with q | q
        · exact hj j q
        · rw [q]; exact e
      by_cases h37 : c = 37
      · rw [decide_eq_true h37, if_pos rfl]
        refine Go.cons (Go.if_ (Go.isTOr (Go.orCons (Go.isTCompare (Go.binop (Go.nameL F2 (mp _ _) (Go.cInt fun _ => Go.addI fun _ => ?_)))))))
        refine Go.callE (Go.nameB Tg (v := .builtin "len") (Go.cwB (Go.spE (Go.nameL F2 (ml _ _) (Go.spZ (Go.lenS hx fun _ => Go.geI ⟨_, rfl, ?_⟩))))))
        have no : okAt x.cps.toList i = false → (Kp h g2 ∧ Value.bool false = .bool (begun x.cps.toList)) := fun e => ⟨F2.keep, by rw [begun_false hlen e]⟩
        by_cases hge : (i : Int) + 2 ≥ x.length
        · rw [decide_eq_true hge, if_pos rfl, if_pos rfl]
          refine Go.cons (Go.return_ (Go.cBool (no ?_)))
          have : x.cps.toList[i + 2]? = none := List.getElem?_eq_none_iff.mpr (by rw [Array.length_toList]; have : x.cps.size = x.length := rfl; omega)
          rw [okAt, hci, this, h37]
          cases x.cps.toList[i + 1]? <;> rfl
        · rw [decide_eq_false hge, if_neg Bool.false_ne_true]
          have l1 : i + 1 < x.cps.size := by have : x.cps.size = x.length := rfl; omega
          have l2 : i + 2 < x.cps.size := by have : x.cps.size = x.length := rfl; omega
          have e1 : x.cps[i + 1]? = some x.cps[i + 1] := by rw [Array.getElem?_eq_getElem l1]
          have e2 : x.cps[i + 2]? = some x.cps[i + 2] := by rw [Array.getElem?_eq_getElem l2]
          have ok : okAt x.cps.toList i = (hexN x.cps[i + 1] && hexN x.cps[i + 2]) := by
            rw [okAt, hci, h37, Array.getElem?_toList, Array.getElem?_toList, e1, e2]
            rfl
          refine Go.orCons (Go.isTCompare (Go.subS (Go.nameL F2 (ml _ _) (Go.binop (Go.nameL F2 (mp _ _) (Go.cInt fun _ => Go.addI fun _ => ⟨x, t, (i : Int) + 1, _, x.cps[i + 1], rfl, rfl, by omega, hx, ?_, fun _ => ?_⟩))))))
          · rw [show ((i : Int) + 1).toNat = i + 1 by omega]; exact e1
          refine Go.nameG Tg (v := .str hexS 535) (Go.notIn1 ⟨_, rfl, ?_⟩)
          by_cases hx1 : hexN x.cps[i + 1] = true
          · rw [show (!decide (x.cps[i + 1] ∈ hexS.cps.toList)) = false from (congrArg not hx1), if_neg Bool.false_ne_true]
            refine Go.orCons (Go.isTCompare (Go.subS (Go.nameL F2 (ml _ _) (Go.binop (Go.nameL F2 (mp _ _) (Go.cInt fun _ => Go.addI fun _ => ⟨x, t, (i : Int) + 2, _, x.cps[i + 2], rfl, rfl, by omega, hx, ?_, fun _ => ?_⟩))))))
            · rw [show ((i : Int) + 2).toNat = i + 2 by omega]; exact e2
            refine Go.nameG Tg (v := .str hexS 535) (Go.notIn1 ⟨_, rfl, ?_⟩)
            by_cases hx2 : hexN x.cps[i + 2] = true
            · rw [show (!decide (x.cps[i + 2] ∈ hexS.cps.toList)) = false from (congrArg not hx2), if_neg Bool.false_ne_true]
              refine Go.orNil ?_
              rw [if_neg Bool.false_ne_true]
              exact Go.nil (Go.nil (Go.nil ⟨k, _, F2, ml _ _, next (by rw [ok, hx1, hx2]; rfl)⟩))
            · rw [Bool.not_eq_true] at hx2
              rw [show (!decide (x.cps[i + 2] ∈ hexS.cps.toList)) = true from (congrArg not hx2), if_pos rfl, if_pos rfl]
              exact Go.cons (Go.return_ (Go.cBool (no (by rw [ok, hx1, hx2]; rfl))))
          · rw [Bool.not_eq_true] at hx1
            rw [show (!decide (x.cps[i + 1] ∈ hexS.cps.toList)) = true from (congrArg not hx1), if_pos rfl, if_pos rfl]
            exact Go.cons (Go.return_ (Go.cBool (no (by rw [ok, hx1]; rfl))))
      · rw [decide_eq_false h37, if_neg Bool.false_ne_true]
        refine Go.nil (Go.nil ⟨k, _, F2, ml _ _, next ?_⟩)
        rw [okAt, hci]
        simp [h37]
    · rintro g ⟨m, Fg, hm, hj⟩
      exact Go.cons (Go.return_ (Go.cBool ⟨Fg.keep, by rw [begun_true]; simpa using hj⟩))
  · intro x hx
    cases hx with
    | head => kernel_rfl
    | tail _ h => cases h
end
end Mine
end
section
open PySem PySem.W PyProof.Rows PySem.Calls
set_option Elab.async false
set_option maxRecDepth 100000
set_option linter.unusedVariables false
set_option maxHeartbeats 0
namespace Mine
abbrev SL (l : List Nat) : Str := ⟨l.toArray⟩
theorem SL_app (a b : List Nat) : SL a ++ SL b = SL (a ++ b) := by
  show (⟨a.toArray ++ b.toArray⟩ : Str) = _
  rw [List.append_toArray]
theorem SL_len (a : List Nat) : (SL a).length = a.length := by show a.toArray.size = _; simp
def dig (n : Nat) : Nat := digS.cps.toList.getD n 0
theorem dig_at : ∀ n < 16, digS.cps[n]? = some (dig n) := by decide +kernel
def encO (o : Int) : List Nat := [37, dig (o.fdiv 16).toNat, dig (o.fmod 16).toNat]
def codedOf (b : Bool) (c : Nat) : List Nat := if c = 37 then (if b then [37] else [37, 50, 53]) else if c ∈ keptS.cps.toList then [c] else (octs c).flatMap encO
def coded (x : List Nat) : List Nat := x.flatMap (codedOf (begun x))
theorem octs_lt {p : Int} (h0 : 0 ≤ p) (h1 : p < 1114112) : ∀ o ∈ octs p, 0 ≤ o ∧ o < 256 := by
  intro o ho
  unfold octs at ho
  simp only [Int.fdiv_eq_ediv_of_nonneg _ (show (0 : Int) ≤ 64 by decide), Int.fdiv_eq_ediv_of_nonneg _ (show (0 : Int) ≤ 4096 by decide), Int.fdiv_eq_ediv_of_nonneg _ (show (0 : Int) ≤ 262144 by decide), Int.fmod_eq_emod_of_nonneg _ (show (0 : Int) ≤ 64 by decide)] at ho
  split at ho
  · simp only [List.mem_cons, List.not_mem_nil, or_false] at ho; omega
  · split at ho
    · simp only [List.mem_cons, List.not_mem_nil, or_false] at ho; omega
    · split at ho
      · simp only [List.mem_cons, List.not_mem_nil, or_false] at ho; omega
      · simp only [List.mem_cons, List.not_mem_nil, or_false] at ho; omega
theorem octs_len (p : Int) : (octs p).length ≤ 4 := by
  unfold octs
  split
  · exact Nat.le_of_ble_eq_true rfl
  · split
    · simp
    · split <;> simp
theorem flat_len {α β : Type} {f : α → List β} {k : Nat} : ∀ {l : List α}, (∀ x ∈ l, (f x).length ≤ k) → (l.flatMap f).length ≤ k * l.length
  | [], _ => Nat.zero_le _
  | a :: l, h => by
    rw [List.flatMap_cons, List.length_append, List.length_cons, Nat.mul_succ]
    have := flat_len (l := l) fun x hx => h x (List.mem_cons_of_mem _ hx)
    have := h a (List.mem_cons_self ..)
    omega
theorem codedOf_len (b : Bool) (c : Nat) : (codedOf b c).length ≤ 12 := by
  unfold codedOf
  split
  · split <;> decide
  · split
    · simp
    · refine Nat.le_trans (flat_len (k := 3) fun _ _ => Nat.le_refl _) ?_
      have := octs_len c
      omega
theorem list_ne_ns {h : Heap} {a L : Addr} {items : Array Value} {m : Str → Option Value} (x : h.IsList a items) (y : h.Ns L m) : a ≠ L := by
  rintro rfl
  obtain ⟨o, ho, _, n, hd⟩ := x
  obtain ⟨o', es, ep, ho', hd', _⟩ := y
  rw [ho] at ho'
  cases ho'
  rw [hd] at hd'
  cases hd'
theorem kx_wr {ex wr : List Addr} {g h h' : Heap} (k1 : Kx ex g h) (k2 : Kx wr h h') (hwr : ∀ b ∈ wr, g.get? b = none) : Kx ex g h' := fun b o hb e => k2 b o (fun q => by rw [hwr b q] at e; cases e) (k1 b o hb e)
theorem kx_wr' {ex wr : List Addr} {g h h' : Heap} (k1 : Kx ex g h) (k2 : Kx wr h h') (hwr : ∀ b o, g.get? b = some o → b ∉ wr) : Kx ex g h' := fun b o hb e => k2 b o (hwr b o e) (k1 b o hb e)
theorem nm1 {a n : Nat} (h : a < n) : a ∉ [n] := by simp only [List.mem_cons, List.not_mem_nil, or_false]; omega
theorem digSz : digS.length ≤ sizeLine := by rw [sizeLine_eq]; decide +kernel
theorem small11 {a b : Nat} : (Str.mk #[a]).length + (Str.mk #[b]).length ≤ sizeLine := by show 1 + 1 ≤ sizeLine; rw [sizeLine_eq]; decide
theorem small21 {a b c : Nat} : (Str.mk #[a] ++ Str.mk #[b]).length + (Str.mk #[c]).length ≤ sizeLine := by show 2 + 1 ≤ sizeLine; rw [sizeLine_eq]; decide
theorem len2 {a b : Nat} : (Str.mk #[a] ++ Str.mk #[b]).length = 2 := rfl
theorem len3 {a b c : Nat} : (Str.mk #[a] ++ Str.mk #[b] ++ Str.mk #[c]).length = 3 := rfl
section
variable {w : World} {A : Around} {h h₀ : Heap} {env : Env} {S : Flow → Heap → Prop}
theorem Go.cwG {i : Nat} {a c : Addr} {dv pm : Value} {pos : Pos} {args : List (Bool × Sem Value)} {R : Value → Heap → Prop} (hm : ∃ n : Nat, objTab[n]? = some (a, fnO i c dv pm)) (x : Go w A (spliced args) h fun vs h1 => TF h1 ∧ Go w A (PySem.call (.ref a) vs []) h1 R) (hp : args.any (·.1) = false := by rfl) : Go w A (callWith pos (.ref a) [] args []) h R := by
  obtain ⟨n, e⟩ := hm
  exact Go.cwF (o := fnO i c dv pm) (fd := fnd i c dv pm) (x.mono fun vs h1 y => ⟨⟨y.1.objs _ (List.mem_of_getElem? e), rfl⟩, y.2⟩) hp
theorem Go.assignPair {x y : Str} {elts : List Expr} {kk : Nat} {tpos pos : Pos} {value : Expr} (hh : A.handled = none)
    (e : Go w A (eval value env) h fun v h1 => ∃ (ta : Addr) (a b : Value) (h₀ : Heap) (m : Str → Option Value), v = .ref ta ∧ IsTup h1 ta #[a, b] ∧ Fr h₀ env.locals h1 m ∧ ∀ h', Fr h₀ env.locals h' (upd (upd m y b) x a) → Kx [env.locals] h1 h' → S .next h')
    (hs : swapsWithSole [.Tuple elts kk tpos] value pos.line env = Pure.pure false) (hw : swappedStores [.Tuple elts kk tpos] value env = Pure.pure (some [x, y]))
    (hx : env.kindOf x = some .local := by kernel_rfl) (hy : env.kindOf y = some .local := by kernel_rfl)
    (hp : (env.scope.kind == .class || (env.scope.kind == .module && env.locals != env.globals)) = false := by kernel_rfl) : Go w A (exec (.Assign [.Tuple elts kk tpos] value pos) env) h S := by
  rw [exec_Assign]
  refine Go.bind (Go.standAt ?_)
  rw [hs]
  refine Go.bind (Go.pure ?_)
  rw [if_neg Bool.false_ne_true]
  refine Go.bind (e.mono fun v h1 y => ?_)
  obtain ⟨ta, a, b, h₀, m, rfl, hT, F, r⟩ := y
  rw [hw]
  refine Go.bind (Go.pure ?_)
  show Go w A (do PySem.rule "assign.swapped-stores"; let items ← unpackItems (.ref ta) 2 none; assignInOrder [fun v => bindName env y v, fun v => bindName env x v] items.reverse; Pure.pure .next) h1 S
  refine Go.bind (Go.rule (Go.bind (Go.unpack2 hh hT rfl fun h2 k2 => Go.bind ?_)))
  refine Go.inOrder2 (Go.bindL (fr_kp F k2) (fun h3 F3 hs3 => Go.bindL F3 (fun h4 F4 hs4 => Go.pure ?_) hx hp) hy hp)
  exact r _ F4 ((Kp.kx k2).trans ((sb_kx hs3 (List.mem_cons_self ..)).trans (sb_kx hs4 (List.mem_cons_self ..))))
theorem take_flat {α β : Type} {f : α → List β} {l : List α} {i : Nat} {a : α} (e : l[i]? = some a) : (l.take (i + 1)).flatMap f = (l.take i).flatMap f ++ f a := by
  rw [List.take_add_one, e, List.flatMap_append]
  simp
theorem take_flat_len {α β : Type} {f : α → List β} {k : Nat} (h : ∀ x, (f x).length ≤ k) {l : List α} {i : Nat} (hi : i ≤ l.length) : ((l.take i).flatMap f).length ≤ k * i := by
  refine Nat.le_trans (flat_len fun x _ => h x) ?_
  rw [List.length_take]
  exact Nat.mul_le_mul_left _ (Nat.min_le_left ..)
abbrev nBegun : Str := Str.ofString "begun"
abbrev nOut : Str := Str.ofString "out"
abbrev nOctet : Str := Str.ofString "octet"
theorem intsAre_at {vs : List Value} {ns : List Int} (hi : IntsAre vs ns) {j : Nat} {v : Value} (e : vs[j]? = some v) : ∃ n t, ns[j]? = some n ∧ v = .int n t := by
  have hl := hi.length
  have hj : j < ns.length := by rw [← hl]; exact (List.getElem?_eq_some_iff.mp e).1
  have hn : ns[j]? = some ns[j] := List.getElem?_eq_getElem hj
  obtain ⟨t, ht⟩ := hi.get j _ hn
  rw [ht] at e
  exact ⟨_, t, hn, (Option.some.inj e).symm⟩
theorem coded_spec (T : TF h) (hroom : A.depth + 1 < recursionLimit) (hh : A.handled = none) (l : List Nat) (t : Tok) (hx : l.length ≤ 1000000) (hcp : ∀ c ∈ l, c < 1114112) : Go w A (PySem.call (.ref 88) [.str (SL l) t]) h fun v h' => Kp h h' ∧ ∃ t, v = .str (SL (coded l)) t := by
  refine Go.enterT (i := 15) (c := 87) (dv := .none) (pm := .str (strOf 8) 523) (body := bd 15) (binds := [(nText, .str (SL l) t)]) T (by omega) (fun h₁ T₁ F => ?_) ⟨6, by kernel_rfl⟩ ⟨6, by kernel_rfl⟩ (by kernel_rfl) (fun s e => .of_eq (by kernel_rfl)) (by decide +kernel) ?_ (by kernel_rfl) (by kernel_rfl) (by kernel_rfl)
  · have hh' : (A.deeper (callEnv (fnd 15 87 Value.none (Value.str (strOf 8) 523)) h.objs.size 88)).handled = none := hh
    have hd' : (A.deeper (callEnv (fnd 15 87 Value.none (Value.str (strOf 8) 523)) h.objs.size 88)).depth < recursionLimit := hroom
    generalize A.deeper (callEnv (fnd 15 87 Value.none (Value.str (strOf 8) 523)) h.objs.size 88) = A' at hh' hd' ⊢
    have L₁ : h.objs.size < h₁.objs.size := F.ns.lt
    obtain ⟨b, hb⟩ : ∃ b, begun l = b := ⟨_, rfl⟩
    have hcd : coded l = l.flatMap (codedOf b) := by rw [coded, hb]
    rw [hcd]
    refine Go.cons_eq rfl (Go.cons (Go.assignPair (x := nBegun) (y := nOut) hh' ?_ (by kernel_rfl) (by kernel_rfl)))
    refine Go.tupleE (Go.spE (Go.callE (Go.nameG T₁ (v := .ref 81) (Go.cwG (i := 14) (c := 80) (dv := .none) (pm := .str (strOf 8) 523) ⟨5, by kernel_rfl⟩ (Go.spE (Go.nameL F (v := .str (SL l) t) (by kernel_rfl) (Go.spZ ⟨T₁, ?_⟩)))))))
    refine (begun_spec T₁ hd' hh' (SL l) t (by rw [SL_len, sizeLine_eq]; omega)).mono fun v h₂ y => ?_
    obtain ⟨k2, rfl⟩ := y
    rw [show begun (SL l).cps.toList = b from hb]
    refine Go.spE (Go.cStr fun t0 => Go.spZ ⟨⟨rfl, small 2 rfl (by decide)⟩, ?_⟩)
    refine ⟨_, _, _, _, _, rfl, ⟨_, Heap.get?_push_size _ rfl, rfl, _, rfl⟩, (fr_kp F k2).push _, fun h₃ F3 k3 => ?_⟩
    dsimp only
    have mt : ∀ (m : Str → Option Value) (a b : Value), m nText = some (.str (SL l) t) → upd (upd m nOut a) nBegun b nText = some (.str (SL l) t) := fun m a b e => (upd_ne (by decide +kernel)).trans ((upd_ne (by decide +kernel)).trans e)
    refine Go.cons (Go.for_ (Go.nameL F3 (mt _ _ _ (by kernel_rfl)) (Go.iterS fun o St W s0 => ?_)))
    have L3 : h.objs.size < h₃.objs.size := F3.ns.lt
    refine GoC.forN (ex := [h.objs.size]) (W _ hh') (fun i h' => ∃ m t, Fr h h.objs.size h' m ∧ m nBegun = some (.bool b) ∧ m nOut = some (.str (SL ((l.take i).flatMap (codedOf b))) t)) (fun b hb => ap1 hb L3) ?_ ?_ ?_ s0 ⟨_, t0, F3.push _, upd_eq _ _ _, (upd_ne (by decide +kernel)).trans (upd_eq _ _ _)⟩
    · rintro i g g' ⟨m, u, Fg, hm, hj⟩ k
      exact ⟨m, u, fr_kx Fg k (ap1' L3) fun b hb => noneAt (ge1 hb L3), hm, hj⟩
    · rintro i g _ hi ⟨c, u', hc, rfl⟩ ⟨m, u, Fg, mb, mo⟩
      have hil : i < l.length := by simpa using hi
      have hcl : l[i]? = some c := by simpa using hc
      refine Go.assignName Fg fun g2 F2 k2 => ?_
      have k2 := sb_kx (ex := [h.objs.size]) k2 (List.mem_cons_self ..)
      have Tg := T.keeps F2.keep
      have mb2 : ∀ a, upd m nSign a nBegun = some (.bool b) := fun a => (upd_ne (by decide +kernel)).trans mb
      have mo2 : ∀ a, upd m nSign a nOut = some (.str (SL ((l.take i).flatMap (codedOf b))) u) := fun a => (upd_ne (by decide +kernel)).trans mo
      have accl : ((l.take i).flatMap (codedOf b)).length ≤ 12 * i := take_flat_len (codedOf_len _) (Nat.le_of_lt hil)
      have fit : ∀ n, n ≤ 1000000 → (SL ((l.take i).flatMap (codedOf b))).length + n ≤ sizeLine := fun n hn => by rw [SL_len, sizeLine_eq]; omega
      refine Go.cons_eq rfl (Go.cons (Go.if_ (Go.isTCompare (Go.nameL F2 (v := .str ⟨#[c]⟩ u') (upd_eq _ _ _) (Go.cStr fun _ => Go.eqS ⟨_, rfl, ?_⟩)))))
      rw [pct, beq1]
      have fin : ∀ (g3 : Heap) (m3 : Str → Option Value) (t3 : Tok), Kx [h.objs.size] g2 g3 → Fr h h.objs.size g3 m3 → m3 nBegun = some (.bool b) → m3 nOut = some (.str (SL ((l.take i).flatMap (codedOf b) ++ codedOf b c)) t3) →
          (Kx [h.objs.size] g g3 ∧ ∃ m t, Fr h h.objs.size g3 m ∧ m nBegun = some (.bool b) ∧ m nOut = some (.str (SL ((l.take (i + 1)).flatMap (codedOf b))) t)) := fun g3 m3 t3 k3 F3 b3 o3 => ⟨k2.trans k3, m3, t3, F3, b3, by rw [take_flat hcl]; exact o3⟩
      by_cases h37 : c = 37
      · rw [decide_eq_true h37, if_pos rfl]
        refine Go.cons (Go.aug (Go.nameLn F2 (mo2 _) (Go.ifExp (Go.isTPlain (Go.nameL F2 (mb2 _) (Go.tBool ?_))))))
        cases b with
        | true =>
          rw [if_pos rfl]
          refine Go.cStr fun _ => Go.iaddS (fit 1 (by decide)) fun t3 => ⟨_, _, F2, fun g3 F3 hs => Go.nil (Go.nil ?_)⟩
          exact fin g3 _ t3 (sb_kx hs (List.mem_cons_self ..)) F3 ((upd_ne (by decide +kernel)).trans (mb2 _)) (by
            rw [upd_eq, show (⟨#[37]⟩ : Str) = SL [37] from rfl, SL_app, codedOf, if_pos h37]; rfl)
        | false =>
          rw [if_neg Bool.false_ne_true]
          refine Go.cStr fun _ => Go.iaddS (fit 3 (by decide)) fun t3 => ⟨_, _, F2, fun g3 F3 hs => Go.nil (Go.nil ?_)⟩
          exact fin g3 _ t3 (sb_kx hs (List.mem_cons_self ..)) F3 ((upd_ne (by decide +kernel)).trans (mb2 _)) (by
            rw [upd_eq, show Str.ofString "%25" = SL [37, 50, 53] by kernel_rfl, SL_app, codedOf, if_pos h37]; rfl)
      · rw [decide_eq_false h37, if_neg Bool.false_ne_true]
        refine Go.cons (Go.if_ (Go.isTCompare (Go.nameL F2 (v := .str ⟨#[c]⟩ u') (upd_eq _ _ _) (Go.nameG Tg (v := .str keptS 531) (Go.in1 ⟨_, rfl, ?_⟩)))))
        by_cases hk : c ∈ keptS.cps.toList
        · rw [decide_eq_true hk, if_pos rfl]
          refine Go.cons (Go.aug (Go.nameLn F2 (mo2 _) (Go.nameL F2 (v := .str ⟨#[c]⟩ u') (upd_eq _ _ _) (Go.iaddS (fit 1 (by decide)) fun t3 => ⟨_, _, F2, fun g3 F3 hs => Go.nil (Go.nil (Go.nil ?_))⟩))))
          exact fin g3 _ t3 (sb_kx hs (List.mem_cons_self ..)) F3 ((upd_ne (by decide +kernel)).trans (mb2 _)) (by
            rw [upd_eq, show (⟨#[c]⟩ : Str) = SL [c] from rfl, SL_app, codedOf, if_neg h37, if_pos hk])
        · rw [decide_eq_false hk, if_neg Bool.false_ne_true]
          have hc114 : c < 1114112 := hcp c (List.mem_of_getElem? hcl)
          refine Go.cons (Go.for_ (Go.callE (Go.nameG Tg (v := .ref 74) (Go.cwG (i := 13) (c := 73) (dv := .none) (pm := .str (strOf 8) 523) ⟨4, by kernel_rfl⟩ (Go.spE (Go.callE (Go.nameB Tg (v := .builtin "ord") (Go.cwB (Go.spE (Go.nameL F2 (v := .str ⟨#[c]⟩ u') (upd_eq _ _ _) (Go.spZ (Go.ord fun _ => Go.spZ ⟨Tg, ?_⟩))))))))))))
          refine (octets_spec Tg hd' _ _).mono fun v g3 y => ?_
          obtain ⟨k3, ax, vs, rfl, hl, hi3⟩ := y
          have F3 := fr_kp F2 k3
          refine Go.iterL hl ?_
          have axne : ax ≠ g3.objs.size := by
            obtain ⟨o, ho, _⟩ := hl
            exact Nat.ne_of_lt (Heap.lt_size ho)
          have axL : ax ≠ h.objs.size := list_ne_ns hl F3.ns
          have L4 : h.objs.size < g3.objs.size := F3.ns.lt
          have hlen := hi3.length
          have ol := octs_len c
          have blt := octs_lt (p := (c : Int)) (by omega) (by omega)
          have accl2 : ∀ j, j ≤ (octs c).length → (((l.take i).flatMap (codedOf b)) ++ ((octs c).take j).flatMap encO).length ≤ 12 * i + 3 * j := fun j hj => by
            rw [List.length_append]
            have := take_flat_len (f := encO) (k := 3) (fun x => Nat.le_refl _) hj
            omega
          refine GoC.forN (ex := [h.objs.size]) (Walks.list hh' _ ax axne vs.toArray) (fun j h' => ∃ m t, Fr h h.objs.size h' m ∧ m nBegun = some (.bool b) ∧ m nOut = some (.str (SL (((l.take i).flatMap (codedOf b)) ++ ((octs c).take j).flatMap encO)) t) ∧ Kx [h.objs.size] g2 h') ?_ ?_ ?_ ?_
            ⟨⟨_, Heap.get?_push_size _ rfl, rfl, rfl⟩, hl.push _⟩ ⟨_, u, F3.push _, mb2 _, by rw [List.take_zero, List.flatMap_nil, List.append_nil]; exact mo2 _, (Kp.kx k3).trans (Kp.kx (push_kp _ _))⟩
          · intro a ha
            simp only [List.mem_cons, List.not_mem_nil, or_false] at ha ⊢
            rcases ha with rfl | rfl
            · exact Nat.ne_of_gt L4
            · exact axL
          · rintro j g4 g5 ⟨m4, t4, F4, b4, o4, k4⟩ k
            exact ⟨m4, t4, fr_kx F4 k (ap1' L4) fun b hb => noneAt (ge1 hb L4), b4, o4, kx_wr' k4 k fun a o e => nm1 (Heap.lt_size (k3 a o e))⟩
          · rintro j g4 v hj hv ⟨m4, t4, F4, b4, o4, k4⟩
            obtain ⟨n, tn, hn, rfl⟩ := intsAre_at hi3 (by simpa using hv)
            have hjl : j < (octs c).length := (List.getElem?_eq_some_iff.mp hn).1
            have nb := blt n (List.mem_of_getElem? hn)
            have d1 : (n.fdiv 16) = ((n.fdiv 16).toNat : Int) ∧ (n.fdiv 16).toNat < 16 := by
              rw [Int.fdiv_eq_ediv_of_nonneg _ (show (0 : Int) ≤ 16 by decide)]; omega
            have d2 : (n.fmod 16) = ((n.fmod 16).toNat : Int) ∧ (n.fmod 16).toNat < 16 := by
              rw [Int.fmod_eq_emod_of_nonneg _ (show (0 : Int) ≤ 16 by decide)]; omega
            refine Go.assignName F4 fun g5 F5 k5 => ?_
            have k5 := sb_kx (ex := [h.objs.size]) k5 (List.mem_cons_self ..)
            have Tg5 := T.keeps F5.keep
            refine Go.cons_eq rfl (Go.cons (Go.aug (Go.nameLn F5 ((upd_ne (by decide +kernel)).trans o4) ?_)))
            refine Go.binop (Go.binop (Go.cStr fun _ => ?_))
            refine Go.subS (Go.nameG Tg5 (v := .str digS 533) (Go.binop (Go.nameL F5 (v := .int n tn) (upd_eq _ _ _) (Go.cInt fun _ => ?_))))
            refine Go.divI (by decide) (PyProof.noPylong_of_log2 (by decide +kernel)) fun _ => ⟨digS, 533, n.fdiv 16, _, dig (n.fdiv 16).toNat, rfl, rfl, by omega, digSz, dig_at _ d1.2, fun _ => Go.addS small11 fun _ => ?_⟩
            refine Go.subS (Go.nameG Tg5 (v := .str digS 533) (Go.binop (Go.nameL F5 (v := .int n tn) (upd_eq _ _ _) (Go.cInt fun _ => ?_))))
            refine Go.modI (by decide) fun _ => ⟨digS, 533, n.fmod 16, _, dig (n.fmod 16).toNat, rfl, rfl, by omega, digSz, dig_at _ d2.2, fun _ => Go.addS small21 fun _ => Go.iaddS ?_ fun t6 => ⟨_, _, F5, fun g6 F6 hs => Go.nil ?_⟩⟩
            · rw [SL_len, len3, sizeLine_eq]
              have := accl2 j (by omega)
              omega
            · have k6 := sb_kx (ex := [h.objs.size]) hs (List.mem_cons_self ..)
              refine ⟨k5.trans k6, _, t6, F6, (upd_ne (by decide +kernel)).trans ((upd_ne (by decide +kernel)).trans b4), ?_, k4.trans (k5.trans k6)⟩
              rw [upd_eq, take_flat hn, ← List.append_assoc]
              show some (Value.str (_ ++ (SL [37] ++ SL [_] ++ SL [_])) t6) = _
              rw [SL_app, SL_app, SL_app]
              rfl
          · rintro g4 ⟨m4, t4, F4, b4, o4, k4⟩
            refine Go.nil (Go.nil (Go.nil (fin g4 m4 t4 k4 F4 b4 ?_)))
            rw [codedOf, if_neg h37, if_neg hk]
            rw [show vs.toArray.size = (octs (c : Int)).length by simpa using hlen, List.take_length] at o4
            exact o4
    · rintro g ⟨m, u, Fg, hm, hj⟩
      rw [List.take_of_length_le (by simp)] at hj
      exact Go.cons (Go.return_ (Go.nameL Fg hj ⟨Fg.keep, u, rfl⟩))
  · intro x hx
    cases hx with
    | head => kernel_rfl
    | tail _ h => cases h
end
end Mine
end
section
open PySem PySem.W PyProof.Rows PySem.Calls
set_option Elab.async false
set_option maxRecDepth 100000
set_option linter.unusedVariables false
set_option maxHeartbeats 0
namespace Mine
def kep (n : Nat) : Nat := keptS.cps.toList.getD n 0
theorem kep_at : ∀ n < 84, keptS.cps[n]? = some (kep n) := by decide +kernel
def hxd (n : Nat) : Nat := hexS.cps.toList.getD n 0
theorem hxd_at : ∀ n < 22, hexS.cps[n]? = some (hxd n) := by decide +kernel
def ggd (n : Nat) : Nat := [71, 103, 58, 126].getD n 0
theorem ggd_at : ∀ n < 4, (Str.ofString "Gg:~").cps[n]? = some (ggd n) := by decide +kernel
theorem keptSz : keptS.length ≤ sizeLine := by rw [sizeLine_eq]; decide +kernel
theorem hexSz : hexS.length ≤ sizeLine := by rw [sizeLine_eq]; decide +kernel
theorem ggSz : (Str.ofString "Gg:~").length ≤ sizeLine := by rw [sizeLine_eq]; decide +kernel
def pieceOf (n : Int) (whole : Bool) : List Nat :=
  if (n.fmod 8 == 0) = true then [kep ((n.fdiv 8).fmod 84).toNat]
  else if (n.fmod 8 == 1) = true ∨ (whole = true ∧ decide (n.fmod 8 < 5) = true) then [37, hxd ((n.fdiv 8).fmod 22).toNat, hxd (((n.fdiv 8).fdiv 22).fmod 22).toNat]
  else if (n.fmod 8 == 2) = true then [37]
  else if (n.fmod 8 == 3) = true then [37, hxd ((n.fdiv 8).fmod 22).toNat]
  else if (n.fmod 8 == 4) = true then [37, ggd ((n.fdiv 8).fmod 4).toNat, hxd (((n.fdiv 8).fdiv 4).fmod 22).toNat]
  else if (n.fmod 8 == 5) = true then (if whole = true ∧ ((n.fdiv 8).fmod 128).toNat = 37 then [37, 50, 53] else [((n.fdiv 8).fmod 128).toNat])
  else if (n.fmod 8 == 6) = true then [(128 + (n.fdiv 8).fmod 1920).toNat]
  else [(if decide (2048 + (n.fdiv 8).fmod 1110016 ≥ 55296) = true then 2048 + (n.fdiv 8).fmod 1110016 + 2048 else 2048 + (n.fdiv 8).fmod 1110016).toNat]
abbrev nKind : Str := Str.ofString "kind"
abbrev nMore : Str := Str.ofString "more"
abbrev nNumber : Str := Str.ofString "number"
abbrev nWhole : Str := Str.ofString "whole"
theorem fm (a b : Int) (hb : 0 < b) : 0 ≤ a.fmod b ∧ a.fmod b < b := by
  rw [Int.fmod_eq_emod_of_nonneg _ (Int.le_of_lt hb)]
  exact ⟨Int.emod_nonneg _ (Int.ne_of_gt hb), Int.emod_lt_of_pos _ hb⟩
theorem fmn (a : Int) (b : Nat) (hb : 0 < b) : (a.fmod b).toNat < b := by
  have := fm a b (by omega)
  omega
section
variable {w : World} {A : Around} {h h₀ : Heap} {env : Env} {S : Flow → Heap → Prop}
local macro_rules | `(tactic| walk_at "dv") => `(tactic| exact PyProof.noPylong_of_log2 (by decide +kernel))
theorem piece_spec (T : TF h) (hroom : A.depth < recursionLimit) (hh : A.handled = none) (n : Int) (whole : Bool) (tn : Tok) : Go w A (PySem.call (.ref 95) [.int n tn, .bool whole]) h fun v h' => Kp h h' ∧ ∃ t, v = .str (SL (pieceOf n whole)) t := by
  refine Go.enterT (i := 16) (c := 94) (dv := .none) (pm := .str (strOf 8) 523) (body := bd 16) (binds := [(nNumber, .int n tn), (nWhole, .bool whole)]) T (by omega) (fun h₁ T₁ F => ?_) ⟨7, by kernel_rfl⟩ ⟨7, by kernel_rfl⟩ (by kernel_rfl) (fun s e => .of_eq (by kernel_rfl)) (by decide +kernel) ?_ (by kernel_rfl) (by kernel_rfl) (by kernel_rfl)
  · have hh' : (A.deeper (callEnv (fnd 16 94 Value.none (Value.str (strOf 8) 523)) h.objs.size 95)).handled = none := hh
    generalize A.deeper (callEnv (fnd 16 94 Value.none (Value.str (strOf 8) 523)) h.objs.size 95) = A' at hh' ⊢
    refine Go.cons_eq rfl (Go.cons (Go.assignPair (x := nKind) (y := nMore) hh' ?_ (by kernel_rfl) (by kernel_rfl)))
    refine Go.tupleE (Go.spE (Go.binop (Go.nameL F (v := .int n tn) (by kernel_rfl) (Go.cInt fun _ => Go.modI (by decide) fun t1 => ?_))))
    refine Go.spE (Go.binop (Go.nameL F (v := .int n tn) (by kernel_rfl) (Go.cInt fun _ => Go.divI (by decide) (by walk_at "dv") fun t2 => Go.spZ ⟨⟨rfl, small 2 rfl (by decide)⟩, ?_⟩)))
    refine ⟨_, _, _, _, _, rfl, ⟨_, Heap.get?_push_size _ rfl, rfl, _, rfl⟩, F.push _, fun h₃ F3 k3 => ?_⟩
    dsimp only
    have T3 := T.keeps F3.keep
    have mk := upd_eq (upd (fun x => List.lookup x [(nNumber, Value.int n tn), (nWhole, Value.bool whole)].reverse) nMore (.int (n.fdiv 8) t2)) nKind (.int (n.fmod 8) t1)
    have mm : upd (upd (fun x => List.lookup x [(nNumber, Value.int n tn), (nWhole, Value.bool whole)].reverse) nMore (.int (n.fdiv 8) t2)) nKind (.int (n.fmod 8) t1) nMore = some (.int (n.fdiv 8) t2) := by kernel_rfl
    have mw : upd (upd (fun x => List.lookup x [(nNumber, Value.int n tn), (nWhole, Value.bool whole)].reverse) nMore (.int (n.fdiv 8) t2)) nKind (.int (n.fmod 8) t1) nWhole = some (.bool whole) := by kernel_rfl
    generalize upd (upd (fun x => List.lookup x [(nNumber, Value.int n tn), (nWhole, Value.bool whole)].reverse) nMore (.int (n.fdiv 8) t2)) nKind (.int (n.fmod 8) t1) = m at F3 mk mm mw
    refine Go.cons (Go.if_ (Go.isTCompare (Go.nameL F3 mk (Go.cInt fun _ => Go.eqI ⟨_, rfl, ?_⟩))))
    cases k0 : (n.fmod 8 == 0) with
    | true =>
      rw [if_pos rfl]
      refine Go.cons (Go.return_ (Go.subS (Go.nameG T3 (v := .str keptS 531) (Go.binop (Go.nameL F3 mm (Go.cInt fun _ => Go.modI (by decide) fun _ => ⟨keptS, 531, (n.fdiv 8).fmod 84, _, kep ((n.fdiv 8).fmod 84).toNat, rfl, rfl, (fm _ _ (by decide)).1, keptSz, kep_at _ (fmn _ 84 (by decide)), fun t => ?_⟩))))))
      exact ⟨F3.keep, t, by rw [pieceOf, if_pos k0]⟩
    | false =>
    rw [if_neg Bool.false_ne_true]
    refine Go.nil (Go.cons (Go.if_ ?_))
    refine Go.mono (R := fun q g => g = h₃ ∧ q = decide ((n.fmod 8 == 1) = true ∨ (whole = true ∧ decide (n.fmod 8 < 5) = true))) ?_ (fun q g y => ?_)
    · refine Go.isTOr (Go.orCons (Go.isTCompare (Go.nameL F3 mk (Go.cInt fun _ => Go.eqI ⟨_, rfl, ?_⟩))))
      cases k1 : (n.fmod 8 == 1) with
      | true => rw [if_pos rfl]; exact ⟨rfl, by simp⟩
      | false =>
      rw [if_neg Bool.false_ne_true]
      refine Go.orCons (Go.isTAnd (Go.andCons (Go.isTPlain (Go.nameL F3 mw (Go.tBool ?_)))))
      cases whole with
      | false => rw [if_neg Bool.false_ne_true, if_neg Bool.false_ne_true]; exact Go.orNil ⟨rfl, by simp⟩
      | true =>
      rw [if_pos rfl]
      refine Go.andCons (Go.isTCompare (Go.nameL F3 mk (Go.cInt fun _ => Go.ltI ⟨_, rfl, ?_⟩)))
      cases k5 : decide (n.fmod 8 < 5) with
      | true => rw [if_pos rfl]; refine Go.andNil ?_; rw [if_pos rfl]; exact ⟨rfl, by simp⟩
      | false => rw [if_neg Bool.false_ne_true, if_neg Bool.false_ne_true]; exact Go.orNil ⟨rfl, by simp⟩
    obtain ⟨rfl, rfl⟩ := y
    have kf : ∀ k : Int, (n.fmod 8 == k) = false → ¬ (n.fmod 8 == k) = true := fun k e => by rw [e]; exact Bool.false_ne_true
    by_cases c1 : (n.fmod 8 == 1) = true ∨ (whole = true ∧ decide (n.fmod 8 < 5) = true)
    · rw [decide_eq_true c1, if_pos rfl]
      refine Go.cons (Go.return_ (Go.binop (Go.binop (Go.cStr fun _ => ?_))))
      refine Go.subS (Go.nameG T3 (v := .str hexS 535) (Go.binop (Go.nameL F3 mm (Go.cInt fun _ => Go.modI (by decide) fun _ => ⟨hexS, 535, (n.fdiv 8).fmod 22, _, hxd ((n.fdiv 8).fmod 22).toNat, rfl, rfl, (fm _ _ (by decide)).1, hexSz, hxd_at _ (fmn _ 22 (by decide)), fun _ => ?_⟩))))
      rw [pct]
      refine Go.addS small11 fun _ => ?_
      refine Go.subS (Go.nameG T3 (v := .str hexS 535) (Go.binop (Go.binop (Go.nameL F3 mm (Go.cInt fun _ => Go.divI (by decide) (by walk_at "dv") fun _ => Go.cInt fun _ => Go.modI (by decide) fun _ => ⟨hexS, 535, ((n.fdiv 8).fdiv 22).fmod 22, _, hxd (((n.fdiv 8).fdiv 22).fmod 22).toNat, rfl, rfl, (fm _ _ (by decide)).1, hexSz, hxd_at _ (fmn _ 22 (by decide)), fun _ => ?_⟩))))) 
      exact Go.addS small21 fun t => ⟨F3.keep, t, by rw [pieceOf, if_neg (kf _ k0), if_pos c1]; rfl⟩
    rw [decide_eq_false c1, if_neg Bool.false_ne_true]
    refine Go.nil ?_
    refine Go.cons (Go.if_ (Go.isTCompare (Go.nameL F3 mk (Go.cInt fun _ => Go.eqI ⟨_, rfl, ?_⟩))))
    cases k2 : (n.fmod 8 == 2) with
    | true =>
      rw [if_pos rfl]
      refine Go.cons (Go.return_ (Go.cStr fun t => ?_))
      exact ⟨F3.keep, t, by rw [pct, pieceOf, if_neg (kf _ k0), if_neg c1, if_pos k2]⟩
    | false =>
    rw [if_neg Bool.false_ne_true]
    refine Go.nil ?_
    refine Go.cons (Go.if_ (Go.isTCompare (Go.nameL F3 mk (Go.cInt fun _ => Go.eqI ⟨_, rfl, ?_⟩))))
    cases k3 : (n.fmod 8 == 3) with
    | true =>
      rw [if_pos rfl]
      refine Go.cons (Go.return_ (Go.binop (Go.cStr fun _ => ?_)))
      refine Go.subS (Go.nameG T3 (v := .str hexS 535) (Go.binop (Go.nameL F3 mm (Go.cInt fun _ => Go.modI (by decide) fun _ => ⟨hexS, 535, (n.fdiv 8).fmod 22, _, hxd ((n.fdiv 8).fmod 22).toNat, rfl, rfl, (fm _ _ (by decide)).1, hexSz, hxd_at _ (fmn _ 22 (by decide)), fun _ => ?_⟩))))
      rw [pct]
      exact Go.addS small11 fun t => ⟨F3.keep, t, by rw [pieceOf, if_neg (kf _ k0), if_neg c1, if_neg (kf _ k2), if_pos k3]; rfl⟩
    | false =>
    rw [if_neg Bool.false_ne_true]
    refine Go.nil ?_
    refine Go.cons (Go.if_ (Go.isTCompare (Go.nameL F3 mk (Go.cInt fun _ => Go.eqI ⟨_, rfl, ?_⟩))))
    cases k4 : (n.fmod 8 == 4) with
    | true =>
      rw [if_pos rfl]
      refine Go.cons (Go.return_ (Go.binop (Go.binop (Go.cStr fun _ => ?_))))
      refine Go.subS (Go.cStr fun _ => Go.binop (Go.nameL F3 mm (Go.cInt fun _ => Go.modI (by decide) fun _ => ⟨Str.ofString "Gg:~", _, (n.fdiv 8).fmod 4, _, ggd ((n.fdiv 8).fmod 4).toNat, rfl, rfl, (fm _ _ (by decide)).1, ggSz, ggd_at _ (fmn _ 4 (by decide)), fun _ => ?_⟩)))
      rw [pct]
      refine Go.addS small11 fun _ => ?_
      refine Go.subS (Go.nameG T3 (v := .str hexS 535) (Go.binop (Go.binop (Go.nameL F3 mm (Go.cInt fun _ => Go.divI (by decide) (by walk_at "dv") fun _ => Go.cInt fun _ => Go.modI (by decide) fun _ => ⟨hexS, 535, ((n.fdiv 8).fdiv 4).fmod 22, _, hxd (((n.fdiv 8).fdiv 4).fmod 22).toNat, rfl, rfl, (fm _ _ (by decide)).1, hexSz, hxd_at _ (fmn _ 22 (by decide)), fun _ => ?_⟩))))) 
      exact Go.addS small21 fun t => ⟨F3.keep, t, by rw [pieceOf, if_neg (kf _ k0), if_neg c1, if_neg (kf _ k2), if_neg (kf _ k3), if_pos k4]; rfl⟩
    | false =>
    rw [if_neg Bool.false_ne_true]
    refine Go.nil ?_
    refine Go.cons (Go.if_ (Go.isTCompare (Go.nameL F3 mk (Go.cInt fun _ => Go.eqI ⟨_, rfl, ?_⟩))))
    cases k5 : (n.fmod 8 == 5) with
    | true =>
      rw [if_pos rfl]
      refine Go.cons (Go.assign (Go.callE (Go.nameB T3 (v := .builtin "chr") (Go.cwB (Go.spE (Go.binop (Go.nameL F3 mm (Go.cInt fun _ => Go.modI (by decide) fun _ => Go.spZ ?_))))))))
      have b := fm (n.fdiv 8) 128 (by decide)
      refine Go.chr (by rw [Bool.or_eq_false_iff, decide_eq_false_iff_not, decide_eq_false_iff_not]; omega) fun t4 => ⟨_, _, F3, fun h4 F4 hs => ?_⟩
      have pc : ∀ R : List Nat, ((if whole = true ∧ ((n.fdiv 8).fmod 128).toNat = 37 then [37, 50, 53] else [((n.fdiv 8).fmod 128).toNat]) = R) → pieceOf n whole = R := fun R e => by rw [pieceOf, if_neg (kf _ k0), if_neg c1, if_neg (kf _ k2), if_neg (kf _ k3), if_neg (kf _ k4), if_pos k5]; exact e
      refine Go.cons (Go.return_ (Go.ifExp (Go.isTAnd (Go.andCons (Go.isTPlain (Go.nameL F4 ((upd_ne (by decide +kernel)).trans mw) (Go.tBool ?_)))))))
      cases whole with
      | false =>
        rw [if_neg Bool.false_ne_true, if_neg Bool.false_ne_true]
        exact Go.nameL F4 (upd_eq _ _ _) ⟨F4.keep, t4, by rw [pc _ (if_neg fun e => nomatch e.1)]⟩
      | true =>
      rw [if_pos rfl]
      refine Go.andCons (Go.isTCompare (Go.nameL F4 (upd_eq _ _ _) (Go.cStr fun _ => Go.eqS ⟨_, rfl, ?_⟩)))
      rw [pct, beq1]
      by_cases e37 : ((n.fdiv 8).fmod 128).toNat = 37
      · rw [decide_eq_true e37, if_pos rfl]
        refine Go.andNil ?_
        rw [if_pos rfl]
        exact Go.cStr fun t => ⟨F4.keep, t, by rw [pc _ (if_pos ⟨rfl, e37⟩), show Str.ofString "%25" = SL [37, 50, 53] by kernel_rfl]⟩
      · rw [decide_eq_false e37, if_neg Bool.false_ne_true, if_neg Bool.false_ne_true]
        exact Go.nameL F4 (upd_eq _ _ _) ⟨F4.keep, t4, by rw [pc _ (if_neg fun e => e37 e.2)]⟩
    | false =>
    rw [if_neg Bool.false_ne_true]
    refine Go.nil ?_
    refine Go.cons (Go.if_ (Go.isTCompare (Go.nameL F3 mk (Go.cInt fun _ => Go.eqI ⟨_, rfl, ?_⟩))))
    cases k6 : (n.fmod 8 == 6) with
    | true =>
      rw [if_pos rfl]
      refine Go.cons (Go.return_ (Go.callE (Go.nameB T3 (v := .builtin "chr") (Go.cwB (Go.spE (Go.binop (Go.cInt fun _ => Go.binop (Go.nameL F3 mm (Go.cInt fun _ => Go.modI (by decide) fun _ => Go.addI fun _ => Go.spZ ?_)))))))))
      have b := fm (n.fdiv 8) 1920 (by decide)
      exact Go.chr (by rw [Bool.or_eq_false_iff, decide_eq_false_iff_not, decide_eq_false_iff_not]; omega) fun t => ⟨F3.keep, t, by rw [pieceOf, if_neg (kf _ k0), if_neg c1, if_neg (kf _ k2), if_neg (kf _ k3), if_neg (kf _ k4), if_neg (kf _ k5), if_pos k6]⟩
    | false =>
    rw [if_neg Bool.false_ne_true]
    refine Go.nil ?_
    refine Go.cons (Go.assign (Go.binop (Go.cInt fun _ => Go.binop (Go.nameL F3 mm (Go.cInt fun _ => Go.modI (by decide) fun _ => Go.addI fun t4 => ⟨_, _, F3, fun h4 F4 hs => ?_⟩)))))
    have b := fm (n.fdiv 8) 1110016 (by decide)
    have T4 := T.keeps F4.keep
    refine Go.cons (Go.return_ (Go.callE (Go.nameB T4 (v := .builtin "chr") (Go.cwB (Go.spE (Go.ifExp (Go.isTCompare (Go.nameL F4 (upd_eq _ _ _) (Go.cInt fun _ => Go.geI ⟨_, rfl, ?_⟩)))))))))
    cases hs : decide (2048 + (n.fdiv 8).fmod 1110016 ≥ 55296) with
    | true =>
      rw [if_pos rfl]
      have q := of_decide_eq_true hs
      refine Go.binop (Go.nameL F4 (upd_eq _ _ _) (Go.cInt fun _ => Go.addI fun _ => Go.spZ ?_))
      exact Go.chr (by rw [Bool.or_eq_false_iff, decide_eq_false_iff_not, decide_eq_false_iff_not]; omega) fun t => ⟨F4.keep, t, by rw [pieceOf, if_neg (kf _ k0), if_neg c1, if_neg (kf _ k2), if_neg (kf _ k3), if_neg (kf _ k4), if_neg (kf _ k5), if_neg (kf _ k6), if_pos hs]⟩
    | false =>
      rw [if_neg Bool.false_ne_true]
      have q := of_decide_eq_false hs
      refine Go.nameL F4 (upd_eq _ _ _) (Go.spZ ?_)
      exact Go.chr (by rw [Bool.or_eq_false_iff, decide_eq_false_iff_not, decide_eq_false_iff_not]; omega) fun t => ⟨F4.keep, t, by rw [pieceOf, if_neg (kf _ k0), if_neg c1, if_neg (kf _ k2), if_neg (kf _ k3), if_neg (kf _ k4), if_neg (kf _ k5), if_neg (kf _ k6), if_neg (by rw [hs]; exact Bool.false_ne_true)]⟩
  · intro x hx
    simp only [List.mem_cons, List.not_mem_nil, or_false] at hx
    rcases hx with rfl | rfl <;> kernel_rfl
end
end Mine
end
section
open PySem PySem.W PyProof.Rows PySem.Calls
set_option Elab.async false
set_option maxRecDepth 100000
set_option linter.unusedVariables false
set_option maxHeartbeats 0
namespace Mine
def WD : Array Nat := #[14, 8, 1, 3, 3, 1, 1, 37, 0, 16, 37, 24, 16, 2, 2, 13, 11, 9, 0, 67043328, 126, 126, 0, 0, 0, 0, 0, 1, 1]
theorem wd_eq : ((reWords.map rawInt).toArray.map PySem.Builtin.Re.reRawOf).map (·.toNat) = WD := by kernel_rfl
def hexB (c : Nat) : Bool := decide (c < 256) && (WD.getD (18 + c / 32) 0).testBit (c % 32)
theorem hexB_eq (c : Nat) : hexB c = hexN c := by
  by_cases h : c < 256
  · revert c; decide +kernel
  · have h1 : hexB c = false := by unfold hexB; rw [decide_eq_false h]; rfl
    have h2 : hexN c = false := by
      unfold hexN
      rw [decide_eq_false_iff_not]
      intro m
      have : ∀ x ∈ hexS.cps.toList, x < 256 := by decide +kernel
      exact h (this c m)
    rw [h1, h2]
theorem inSet_hex (c : Nat) (seen : Sre.Seen) : ∃ seen', Sre.inSet WD c WD.size 17 true seen = .ok (hexB c, seen') := by
  have e1 : WD.size = 27 + 2 := rfl
  rw [e1]
  unfold Sre.inSet
  show ∃ seen', (if (decide (c < 256) && (WD.getD (17 + (1 + c / 32)) 0).testBit (c % 32)) = true then Except.ok (true, seen.add 9) else Sre.inSet WD c 28 26 true (seen.add 9)) = _
  have e2 : (decide (c < 256) && (WD.getD (17 + (1 + c / 32)) 0).testBit (c % 32)) = hexB c := by unfold hexB; rw [← Nat.add_assoc]
  rw [e2]
  cases hexB c with
  | true => exact ⟨_, if_pos rfl⟩
  | false =>
    rw [if_neg Bool.false_ne_true]
    exact ⟨_, rfl⟩
/-- the machine's states, at our pattern -/
def ms (x : Array Nat) (start pc pos handed : Nat) (om : Bool) (fr : List Sre.Frame) (wt : Nat) (an : Option Bool) (seen : Sre.Seen) (oc : Option Sre.Outcome) : Sre.M :=
  { code := WD, text := x, lim := x.size, start := start, lastStart := x.size, pc := pc, pos := pos, handed := handed, outermost := om, marks := #[], frames := fr, weight := wt, answer := an, seen := seen, outcome := oc }
def fr0 (s : Nat) (om : Bool) : Sre.Frame := { wait := .nextStart, pc := 9, pos := s, outermost := om }
def at_ (x : Array Nat) (s : Nat) (om : Bool) (seen : Sre.Seen) : Sre.M := ms x s 9 s s om [fr0 s om] 1 none seen none
theorem st_lit_no (x : Array Nat) (s : Nat) (om : Bool) (seen : Sre.Seen) (h : s < x.size) (hc : x.getD s 0 ≠ 37) : ∃ seen', (at_ x s om seen).step = ms x s 9 s s om [fr0 s om] 1 (some false) seen' none := by
  refine ⟨seen.add 16, ?_⟩
  show (if (at_ x s om seen).pos ≥ (at_ x s om seen).lim then _ else _) = _
  rw [if_neg (by show ¬ s ≥ x.size; omega)]
  have e : Sre.accepts WD 9 (x.getD s 0) (seen.add 16) = .ok (x.getD s 0 == 37, seen.add 16) := rfl
  have e2 : (x.getD s 0 == 37) = false := by simpa using hc
  rw [e2] at e
  show (match Sre.accepts WD 9 (x.getD s 0) (seen.add 16) with | .error why => _ | .ok (false, seen) => _ | .ok (true, seen) => _) = _
  rw [e]
  rfl
theorem st_lit_end (x : Array Nat) (s : Nat) (om : Bool) (seen : Sre.Seen) (h : s ≥ x.size) : ∃ seen', (at_ x s om seen).step = ms x s 9 s s om [fr0 s om] 1 (some false) seen' none := by
  refine ⟨seen.add 16, ?_⟩
  show (if (at_ x s om seen).pos ≥ (at_ x s om seen).lim then _ else _) = _
  rw [if_pos (by show s ≥ x.size; exact h)]
  rfl
theorem st_lit_yes (x : Array Nat) (s : Nat) (om : Bool) (seen : Sre.Seen) (h : s < x.size) (hc : x.getD s 0 = 37) : ∃ seen', (at_ x s om seen).step = ms x s 11 (s + 1) s om [fr0 s om] 1 none seen' none := by
  refine ⟨seen.add 16, ?_⟩
  show (if (at_ x s om seen).pos ≥ (at_ x s om seen).lim then _ else _) = _
  rw [if_neg (by show ¬ s ≥ x.size; omega)]
  have e : Sre.accepts WD 9 (x.getD s 0) (seen.add 16) = .ok (x.getD s 0 == 37, seen.add 16) := rfl
  rw [hc] at e
  show (match Sre.accepts WD 9 (x.getD s 0) (seen.add 16) with | .error why => _ | .ok (false, seen) => _ | .ok (true, seen) => _) = _
  rw [hc, e]
  rfl
def hexes (x : Array Nat) (p : Nat) : Nat := if hexB (x.getD p 0) = true then (if hexB (x.getD (p + 1) 0) = true then 2 else 1) else 0
theorem run_hex (x : Array Nat) (p : Nat) (seen : Sre.Seen) : ∃ seen', Sre.run WD x 15 2 p 0 seen = .ok (hexes x p, seen') := by
  obtain ⟨s1, e1⟩ := inSet_hex (x.getD p 0) seen
  have a1 : Sre.accepts WD 15 (x.getD p 0) seen = .ok (hexB (x.getD p 0), s1) := e1
  obtain ⟨s2, e2⟩ := inSet_hex (x.getD (p + 1) 0) s1
  have a2 : Sre.accepts WD 15 (x.getD (p + 1) 0) s1 = .ok (hexB (x.getD (p + 1) 0), s2) := e2
  unfold hexes
  rw [Sre.run, a1]
  show ∃ seen', (if hexB (x.getD p 0) = true then Sre.run WD x 15 1 (p + 1) (0 + 1) s1 else pure (0, s1)) = _
  cases hexB (x.getD p 0) with
  | false => exact ⟨s1, rfl⟩
  | true =>
    rw [if_pos rfl, if_pos rfl, Sre.run, a2]
    show ∃ seen', (if hexB (x.getD (p + 1) 0) = true then Sre.run WD x 15 0 (p + 1 + 1) (0 + 1 + 1) s2 else pure (0 + 1, s2)) = _
    cases hexB (x.getD (p + 1) 0) with
    | false => exact ⟨s2, rfl⟩
    | true => exact ⟨s2, rfl⟩
def fgb (s : Nat) (om : Bool) : Sre.Frame := { wait := .giveBack, pc := 11, pos := s + 3, outermost := om, count := 2, kept := { lastmark := -1, lastindex := -1, whole := false, marks := #[] } }
theorem st_rep_short (x : Array Nat) (s : Nat) (om : Bool) (seen : Sre.Seen) (h : x.size < s + 3) : ∃ seen', (ms x s 11 (s + 1) s om [fr0 s om] 1 none seen none).step = ms x s 11 (s + 1) s om [fr0 s om] 1 (some false) seen' none := by
  refine ⟨seen.add 24, ?_⟩
  show (if (2 : Int) > (x.size : Int) - ((s + 1 : Nat) : Int) then _ else _) = _
  rw [if_pos (by omega)]
  rfl
theorem st_rep_no (x : Array Nat) (s : Nat) (om : Bool) (seen : Sre.Seen) (h : s + 3 ≤ x.size) (hx : hexes x (s + 1) < 2) : ∃ seen', (ms x s 11 (s + 1) s om [fr0 s om] 1 none seen none).step = ms x s 11 (s + 1) s om [fr0 s om] 1 (some false) seen' none := by
  obtain ⟨s1, e1⟩ := run_hex x (s + 1) ((seen.add 24).add 13)
  refine ⟨s1, ?_⟩
  show (if (2 : Int) > (x.size : Int) - ((s + 1 : Nat) : Int) then _ else (match Sre.run WD x 15 (min 2 ((x.size : Int) - ((s + 1 : Nat) : Int)).toNat) (s + 1) 0 ((seen.add 24).add 13) with | .error why => _ | .ok (n, seen) => if n < 2 then _ else _)) = _
  rw [if_neg (by omega), show min 2 ((x.size : Int) - ((s + 1 : Nat) : Int)).toNat = 2 by omega, e1]
  show (if hexes x (s + 1) < 2 then _ else _) = _
  rw [if_pos hx]
  rfl
theorem st_rep_yes (x : Array Nat) (s : Nat) (om : Bool) (seen : Sre.Seen) (h : s + 3 ≤ x.size) (hx : hexes x (s + 1) = 2) : ∃ seen', (ms x s 11 (s + 1) s om [fr0 s om] 1 none seen none).step = ms x s 28 (s + 3) (s + 3) om [fgb s om, fr0 s om] 2 none seen' none := by
  obtain ⟨s1, e1⟩ := run_hex x (s + 1) ((seen.add 24).add 13)
  refine ⟨s1, ?_⟩
  show (if (2 : Int) > (x.size : Int) - ((s + 1 : Nat) : Int) then _ else (match Sre.run WD x 15 (min 2 ((x.size : Int) - ((s + 1 : Nat) : Int)).toNat) (s + 1) 0 ((seen.add 24).add 13) with | .error why => _ | .ok (n, seen) => if n < 2 then _ else _)) = _
  rw [if_neg (by omega), show min 2 ((x.size : Int) - ((s + 1 : Nat) : Int)).toNat = 2 by omega, e1, hx]
  rfl
theorem st_succ (x : Array Nat) (s : Nat) (om : Bool) (seen : Sre.Seen) : ∃ seen', (ms x s 28 (s + 3) (s + 3) om [fgb s om, fr0 s om] 2 none seen none).step = ms x s 28 (s + 3) (s + 3) om [fgb s om, fr0 s om] 2 (some true) seen' none := by
  refine ⟨seen.add 1, ?_⟩
  cases om <;> rfl
theorem st_res1 (x : Array Nat) (s : Nat) (om : Bool) (seen : Sre.Seen) : (ms x s 28 (s + 3) (s + 3) om [fgb s om, fr0 s om] 2 (some true) seen none).step = ms x s 11 (s + 3) (s + 3) om [fr0 s om] 1 (some true) seen none := rfl
theorem st_res2 (x : Array Nat) (s pc pos hd : Nat) (om : Bool) (seen : Sre.Seen) : (ms x s pc pos hd om [fr0 s om] 1 (some true) seen none).step = ms x s 9 s hd om [] 0 (some true) seen none := rfl
theorem st_end (x : Array Nat) (s pc pos hd : Nat) (om b : Bool) (seen : Sre.Seen) : (ms x s pc pos hd om [] 0 (some b) seen none).step = ms x s pc pos hd om [] 0 (some b) seen (some (if b then .matched else .failed)) := rfl
theorem st_next (x : Array Nat) (s pc pos hd : Nat) (om : Bool) (seen : Sre.Seen) (h : s < x.size) : (ms x s pc pos hd om [fr0 s om] 1 (some false) seen none).step = at_ x (s + 1) false seen := by
  show (if s < x.size then _ else _) = _
  rw [if_pos h]
  rfl
theorem st_over (x : Array Nat) (s pc pos hd : Nat) (om : Bool) (seen : Sre.Seen) (h : ¬ s < x.size) : (ms x s pc pos hd om [fr0 s om] 1 (some false) seen none).step = ms x s 9 s hd om [] 0 (some false) seen none := by
  show (if s < x.size then _ else _) = _
  rw [if_neg h]
  rfl
end Mine
end
section
open PySem PySem.W PyProof.Rows PySem.Calls
set_option Elab.async false
set_option maxRecDepth 100000
set_option linter.unusedVariables false
set_option maxHeartbeats 0
namespace Mine
def tri (x : Array Nat) (i : Nat) : Bool := decide (i + 3 ≤ x.size) && (x.getD i 0 == 37 && hexes x (i + 1) == 2)
theorem rf_done {m : Sre.M} (h : m.outcome.isSome = true) : ∀ n, Sre.M.runFor n m = m
  | 0 => rfl
  | n + 1 => by rw [Sre.M.runFor, if_pos h]
theorem rf_add (a b : Nat) : ∀ m : Sre.M, Sre.M.runFor (a + b) m = Sre.M.runFor b (Sre.M.runFor a m) := by
  induction a with
  | zero => intro m; rw [Nat.zero_add]; rfl
  | succ a ih =>
    intro m
    rw [Nat.succ_add, Sre.M.runFor, Sre.M.runFor]
    by_cases h : m.outcome.isSome = true
    · rw [if_pos h, if_pos h, rf_done h]
    · rw [if_neg h, if_neg h, ih]
theorem rf_step {m m1 : Sre.M} {n : Nat} (h : m.outcome = none) (e : m.step = m1) : Sre.M.runFor (n + 1) m = Sre.M.runFor n m1 := by
  rw [Sre.M.runFor, if_neg (by rw [h]; exact Bool.false_ne_true), e]
/-- what a search from s answers -/
def Found (x : Array Nat) (s : Nat) (m : Sre.M) : Prop :=
  (m.outcome = some .failed ∧ ∀ j, s ≤ j → tri x j = false) ∨ (m.outcome = some .matched ∧ ∃ i, s ≤ i ∧ tri x i = true ∧ (∀ j, s ≤ j → j < i → tri x j = false) ∧ m.start = i ∧ m.handed = i + 3)
theorem tri_out {x : Array Nat} {j : Nat} (h : x.size < j + 3) : tri x j = false := by
  unfold tri
  rw [decide_eq_false (by omega)]
  rfl
theorem found_more {x : Array Nat} {s : Nat} {m : Sre.M} (h : tri x s = false) (f : Found x (s + 1) m) : Found x s m := by
  rcases f with ⟨a, b⟩ | ⟨a, i, hi, t, b, c⟩
  · exact .inl ⟨a, fun j hj => by
      rcases Nat.eq_or_lt_of_le hj with e | e
      · rw [← e]; exact h
      · exact b j e⟩
  · exact .inr ⟨a, i, by omega, t, fun j hj hl => by
      rcases Nat.eq_or_lt_of_le hj with e | e
      · rw [← e]; exact h
      · exact b j e hl, c⟩
theorem search (x : Array Nat) : ∀ (d s : Nat) (om : Bool) (seen : Sre.Seen), s + d = x.size → ∃ k, k ≤ 3 * d + 8 ∧ ∃ m, Sre.M.runFor k (at_ x s om seen) = m ∧ Found x s m
  | 0, s, om, seen, h => by
    obtain ⟨s1, e1⟩ := st_lit_end x s om seen (by omega)
    refine ⟨3, by omega, ms x s 9 s s om [] 0 (some false) s1 (some .failed), ?_, .inl ⟨rfl, fun j hj => tri_out (by omega)⟩⟩
    · rw [rf_step (m1 := ms x s 9 s s om [fr0 s om] 1 (some false) s1 none) rfl e1, rf_step rfl (st_over _ _ _ _ _ _ _ (by omega)), rf_step rfl (st_end ..)]
      rfl
  | d + 1, s, om, seen, h => by
    have hs : s < x.size := by omega
    by_cases hc : x.getD s 0 = 37
    · obtain ⟨s1, e1⟩ := st_lit_yes x s om seen hs hc
      by_cases h3 : s + 3 ≤ x.size
      · by_cases hx : hexes x (s + 1) = 2
        · obtain ⟨s2, e2⟩ := st_rep_yes x s om s1 h3 hx
          obtain ⟨s3, e3⟩ := st_succ x s om s2
          refine ⟨6, by omega, ms x s 9 s (s + 3) om [] 0 (some true) s3 (some .matched), ?_, .inr ⟨rfl, s, Nat.le_refl _, ?_, fun j a b => by omega, rfl, rfl⟩⟩
          · rw [rf_step rfl e1, rf_step rfl e2, rf_step rfl e3, rf_step rfl (st_res1 ..), rf_step rfl (st_res2 ..), rf_step rfl (st_end ..)]
            rfl
          · unfold tri
            rw [decide_eq_true h3, hc, hx]
            rfl
        · have hx2 : hexes x (s + 1) < 2 := by
            unfold hexes at hx ⊢
            split
            · split
              · simp_all
              · omega
            · omega
          obtain ⟨s2, e2⟩ := st_rep_no x s om s1 h3 hx2
          obtain ⟨k, hk, m, hm, f⟩ := search x d (s + 1) false s2 (by omega)
          refine ⟨k + 1 + 1 + 1, by omega, m, ?_, found_more ?_ f⟩
          · rw [rf_step rfl e1, rf_step rfl e2, rf_step rfl (st_next _ _ _ _ _ _ _ hs), hm]
          · unfold tri
            rw [show (hexes x (s + 1) == 2) = false by simpa using hx, Bool.and_false, Bool.and_false]
      · obtain ⟨s2, e2⟩ := st_rep_short x s om s1 (by omega)
        obtain ⟨k, hk, m, hm, f⟩ := search x d (s + 1) false s2 (by omega)
        refine ⟨k + 1 + 1 + 1, by omega, m, ?_, found_more (tri_out (by omega)) f⟩
        rw [rf_step rfl e1, rf_step rfl e2, rf_step rfl (st_next _ _ _ _ _ _ _ hs), hm]
    · obtain ⟨s1, e1⟩ := st_lit_no x s om seen hs hc
      obtain ⟨k, hk, m, hm, f⟩ := search x d (s + 1) false s1 (by omega)
      refine ⟨k + 1 + 1, by omega, m, ?_, found_more ?_ f⟩
      · rw [rf_step rfl e1, rf_step rfl (st_next _ _ _ _ _ _ _ hs), hm]
      · unfold tri
        rw [show (x.getD s 0 == 37) = false by simpa using hc, Bool.false_and, Bool.and_false]
theorem searchF (x : Array Nat) (pos : Nat) (hp : pos ≤ x.size) : ∃ k, k ≤ 3 * x.size + 8 ∧ ∃ m, Sre.M.runFor k (Sre.forSearch WD x 0 pos x.size false) = m ∧ Found x pos m := by
  by_cases h : x.size - pos < 3
  · have e : Sre.forSearch WD x 0 pos x.size false = { Sre.forSearch WD #[] 0 1 0 false with text := x, lim := x.size, start := pos, pos := pos, handed := pos } := by
      show (if (decide (pos > x.size) || decide (x.size - pos < 3)) = true then _ else _) = _
      rw [if_pos (by rw [decide_eq_true h, Bool.or_true])]
      rfl
    refine ⟨1, by omega, _, rfl, .inl ⟨?_, fun j hj => tri_out (by omega)⟩⟩
    rw [e]
    rfl
  · obtain ⟨k, hk, m, hm, f⟩ := search x (x.size - pos) pos true (({} : Sre.Seen).add 14) (by omega)
    refine ⟨k, by omega, m, ?_, f⟩
    rw [← hm]
    congr 1
    show (if (decide (pos > x.size) || decide (x.size - pos < 3)) = true then _ else _) = _
    rw [if_neg (by rw [decide_eq_false (show ¬ pos > x.size by omega), decide_eq_false h]; exact Bool.false_ne_true)]
    rfl
end Mine
end
section
open PySem PySem.W PyProof.Rows PySem.Calls
set_option Elab.async false
set_option maxRecDepth 100000
set_option linter.unusedVariables false
set_option maxHeartbeats 0
namespace Mine
theorem pa_pattern : PlainAttrs "re.Pattern" :=
  ⟨⟨"object.__getattribute__", by rw [typeLookup_type, builtinLookup_eq_fast]; kernel_rfl, by decide +kernel⟩, by rw [typeLookup_type, builtinLookup_eq_fast]; kernel_rfl⟩
theorem slot_findall : Slot "re.Pattern" (Str.ofString "findall") "re.Pattern.findall" :=
  .of (owner := "re.Pattern") (n := "findall") (by rw [typeLookup_type, builtinLookup_eq_fast]; kernel_rfl) (by decide +kernel) (by decide +kernel) (by decide +kernel)
    (by first | exact .inl (by decide +kernel) | exact .inr (by decide +kernel)) (by rw [isSubtype_type]; kernel_rfl)
theorem entry_findall : entryFor table "re.Pattern.findall" = some Builtin.«re.Pattern.findall» := entryFor_of_tree (by kernel_rfl)
theorem args_findall (a b : Value) : argsOk "re.Pattern.findall" ⟨[a, b], []⟩ := by unfold argsOk; kernel_rfl
theorem type_findall : typeOf (.builtin "re.Pattern.findall") = pure (.type "method_descriptor") := by show builtinType _ = _; rw [builtinType_eq_fast]; kernel_rfl
/-! counting -/
def cntT (x : Array Nat) (s d : Nat) : Nat := (List.range' s d).countP (tri x)
theorem cnt_skip (x : Array Nat) : ∀ (d e s : Nat), (∀ j, s ≤ j → j < s + d → tri x j = false) → cntT x s (d + e) = cntT x (s + d) e
  | 0, e, s, _ => by rw [Nat.zero_add, Nat.add_zero]
  | d + 1, e, s, h => by
    have ih := cnt_skip x d e (s + 1) fun j a b => h j (by omega) (by omega)
    unfold cntT at ih ⊢
    rw [show d + 1 + e = (d + e) + 1 by omega, List.range'_succ, List.countP_cons_of_neg (by rw [h s (by omega) (by omega)]; exact Bool.false_ne_true), ih]
    congr 2
    omega
theorem cnt_none (x : Array Nat) (s d : Nat) (h : ∀ j, s ≤ j → tri x j = false) : cntT x s d = 0 := by
  have := cnt_skip x d 0 s fun j a _ => h j a
  rw [Nat.add_zero] at this
  rw [this]
  rfl
theorem hex37 : hexB 37 = false := by decide +kernel
theorem tri_next {x : Array Nat} {i : Nat} (h : tri x i = true) : i + 3 ≤ x.size ∧ tri x (i + 1) = false ∧ tri x (i + 2) = false := by
  unfold tri at h
  rw [Bool.and_eq_true, Bool.and_eq_true] at h
  have h2 : hexes x (i + 1) = 2 := by simpa using h.2.2
  have ⟨a, b⟩ : hexB (x.getD (i + 1) 0) = true ∧ hexB (x.getD (i + 2) 0) = true := by
    unfold hexes at h2
    split at h2
    · split at h2
      · exact ⟨by assumption, by assumption⟩
      · cases h2
    · cases h2
  have nn : ∀ c, hexB c = true → (c == 37) = false := fun c e => by
    by_cases q : c = 37
    · rw [q, hex37] at e; cases e
    · simpa using q
  refine ⟨of_decide_eq_true h.1, ?_, ?_⟩
  · unfold tri; rw [nn _ a]; simp
  · unfold tri; rw [nn _ b]; simp
theorem cnt_found {x : Array Nat} {s i : Nat} (hs : s ≤ i) (ht : tri x i = true) (hn : ∀ j, s ≤ j → j < i → tri x j = false) : cntT x s (x.size - s) = 1 + cntT x (i + 3) (x.size - (i + 3)) := by
  obtain ⟨h3, t1, t2⟩ := tri_next ht
  have e1 := cnt_skip x (i - s) (x.size - i) s fun j a b => hn j a (by omega)
  rw [show i - s + (x.size - i) = x.size - s by omega, show s + (i - s) = i by omega] at e1
  rw [e1]
  have e2 : cntT x i (x.size - i) = 1 + cntT x (i + 1) (x.size - (i + 3) + 2) := by
    unfold cntT
    rw [show x.size - i = (x.size - (i + 3) + 2) + 1 by omega, List.range'_succ, List.countP_cons_of_pos ht, Nat.add_comm]
  have e3 := cnt_skip x 2 (x.size - (i + 3)) (i + 1) fun j a b => by
    rcases (show j = i + 1 ∨ j = i + 2 by omega) with q | q
    · rw [q]; exact t1
    · rw [q]; exact t2
  rw [e2, show x.size - (i + 3) + 2 = 2 + (x.size - (i + 3)) by omega, e3]
section
variable {w : World} {A : Around} {h h₀ : Heap}
theorem Go.forUnit {α : Type} {f : α → PUnit → Sem (ForInStep PUnit)} (hf : ∀ a (h : Heap) (R : ForInStep PUnit → Heap → Prop), R (.yield ⟨⟩) h → Go w A (f a ⟨⟩) h R) : ∀ {l : List α} {R : PUnit → Heap → Prop}, R ⟨⟩ h → Go w A (forIn l ⟨⟩ f) h R
  | [], R, r => by rw [List.forIn_nil]; exact Go.pure r
  | a :: l, R, r => by
    rw [List.forIn_cons]
    exact Go.bind (hf a h _ (Go.forUnit hf r))
theorem Go.drive : ∀ {n : Nat} {m m' : Sre.M} {R : Sre.M → Heap → Prop}, Sre.M.runFor (4 * n) m = m' → m'.outcome.isSome = true → 0 < n → R m' h → Go w A (PySem.Builtin.Re.reDrive n m) h R
  | 0, _, _, _, _, _, h0, _ => absurd h0 (Nat.lt_irrefl _)
  | n + 1, m, m', R, e, ho, _, r => by
    rw [PySem.Builtin.Re.reDrive]
    rw [show 4 * (n + 1) = 4 + 4 * n by omega, rf_add] at e
    show Go w A (if (Sre.M.runFor 4 m).outcome.isSome = true then _ else _) h R
    by_cases q : (Sre.M.runFor 4 m).outcome.isSome = true
    · rw [if_pos q]
      rw [rf_done q] at e
      rw [← e] at r
      exact Go.pure r
    · rw [if_neg q]
      by_cases hn : n = 0
      · subst hn
        rw [show 4 * 0 = 0 from rfl] at e
        rw [show Sre.M.runFor 4 m = m' from e] at q
        exact absurd ho q
      · exact Go.bind (Go.rule (Go.drive e ho (Nat.pos_of_ne_zero hn) r))
theorem Go.runEnd {m m' : Sre.M} {k : Nat} {x : Array Nat} {s : Nat} {R : Option Sre.M → Heap → Prop} (e : Sre.M.runFor k m = m') (hk : k ≤ 1000000000) (f : Found x s m') (r : R (match m'.outcome with | some .matched => some m' | _ => none) h) : Go w A (PySem.Builtin.Re.reRunToEnd m) h R := by
  have ho : m'.outcome.isSome = true := by rcases f with ⟨a, _⟩ | ⟨a, _⟩ <;> rw [a] <;> rfl
  have e2 : Sre.M.runFor (4 * 2 ^ 64) m = m' := by
    rw [show 4 * 2 ^ 64 = k + (4 * 2 ^ 64 - k) by omega, rf_add, e, rf_done ho]
  unfold PySem.Builtin.Re.reRunToEnd
  refine Go.bind (Go.drive e2 ho (Nat.pos_of_ne_zero (by decide)) ?_)
  refine Go.bind (Go.forUnit (fun a h R r => ?_) ?_)
  · by_cases q : m'.seen.has a = true
    · rw [if_pos q]; exact Go.bind (Go.rule (Go.pure r))
    · rw [if_neg q]; exact Go.pure r
  · rcases f with ⟨a, _⟩ | ⟨a, _⟩
    · rw [a] at r ⊢; exact Go.pure r
    · rw [a] at r ⊢; exact Go.pure r
end
end Mine
end
section
open PySem PySem.W PyProof.Rows PySem.Calls
set_option Elab.async false
set_option maxRecDepth 100000
set_option linter.unusedVariables false
set_option maxHeartbeats 0
namespace Mine
section
variable {w : World} {A : Around} {h h₀ : Heap}
def tgt (x : Str) (t : Tok) : PySem.Builtin.Re.ReTarget := { pattern := .ref 53, string := .str x t, code := WD, text := x.cps, kind := 0, groups := 0, pos := 0, lim := x.cps.size }
theorem ty53 (T : TF h) : TyIs h (.ref 53) "re.Pattern" := ⟨_, T.objs _ (List.mem_of_getElem? (i := 10) rfl), rfl⟩
theorem goTarget (T : TF h) {x : Str} {t : Tok} (hx : x.length ≤ 1000000) {R : PySem.Builtin.Re.ReTarget → Heap → Prop} (r : R (tgt x t) h) : Go w A (PySem.Builtin.Re.reTarget "re.Pattern.findall" "findall" ⟨[.ref 53, .str x t], []⟩) h R := by
  unfold PySem.Builtin.Re.reTarget
  have e : PySem.Builtin.Re.reNamed "re.Pattern.findall" "findall" ["string", "pos", "endpos"] 1 [.str x t] [] = pure [some (.str x t), none, none] := by kernel_rfl
  show Go w A (PySem.Builtin.Re.reNamed "re.Pattern.findall" "findall" ["string", "pos", "endpos"] 1 [.str x t] [] >>= _) h R
  rw [e]
  refine Go.bind (Go.pure ?_)
  refine Go.bind (Go.pure (Go.bind (Go.pure ?_)))
  refine Go.bind (Go.bind (Go.load (T.objs (53, _) (List.mem_of_getElem? (i := 10) rfl)) (Go.pure ?_)))
  refine Go.bind (Go.pure ?_)
  dsimp only
  rw [if_neg (by decide), if_neg (by decide)]
  refine Go.bind (Go.pure ?_)
  refine Go.bind (Go.bind (Go.bind (Go.load (T.objs (52, _) (List.mem_of_getElem? (i := 11) rfl)) (Go.pure ?_))) )
  refine Go.pure (Go.pure ?_)
  have e2 : tgt x t = { pattern := .ref 53, string := .str x t, code := ((reWords.map rawInt).toArray.map PySem.Builtin.Re.reRawOf).map (·.toNat), text := x.cps, kind := 0, groups := 0, pos := min (Int.toNat 0) x.cps.size, lim := min (Int.toNat (2 ^ 63 - 1)) x.cps.size } := by
    rw [wd_eq, Nat.min_eq_right (show x.cps.size ≤ Int.toNat (2 ^ 63 - 1) by have : x.cps.size = x.length := rfl; omega)]
    rw [show Int.toNat 0 = 0 from rfl, Nat.zero_min]
    rfl
  rw [e2] at r
  exact r
theorem goForInv {α σ : Type} {f : α → σ → Sem (ForInStep σ)} (P : Nat → σ → Prop) (turn : ∀ a n s, P (n + 1) s → Go w A (f a s) h fun r h' => h' = h ∧ ∃ s', r = .yield s' ∧ P n s') : ∀ {l : List α} {s : σ} {R : σ → Heap → Prop}, P l.length s → (∀ s, P 0 s → R s h) → Go w A (forIn l s f) h R
  | [], s, R, p, r => by rw [List.forIn_nil]; exact Go.pure (r s p)
  | a :: l, s, R, p, r => by
    rw [List.forIn_cons]
    refine Go.bind ((turn a l.length s p).mono fun q h' y => ?_)
    obtain ⟨e1, s', e2, p'⟩ := y
    rw [e1, e2]
    exact goForInv P turn p' r
theorem goFindall (T : TF h) {x : Str} {t : Tok} (hx : x.length ≤ 1000000) {R : Value → Heap → Prop} (r : ∀ vs : List Value, vs.length = cntT x.cps 0 x.cps.size → R (.ref h.objs.size) (h.push { cls := .type "list", data := .seq vs.toArray })) : Go w A (PySem.call (.builtin "re.Pattern.findall") [.ref 53, .str x t]) h R := by
  refine Go.slot slot_findall (ty53 T) entry_findall (args_findall _ _) ?_
  unfold PySem.Builtin.«re.Pattern.findall»
  refine Go.bind (goTarget T hx ?_)
  have hn : x.cps.size ≤ 1000000 := hx
  refine Go.bind (goForInv (fun n (s : Array Value × Nat × Bool × Bool) => (s.2.2.2 = true ∧ s.1.size = cntT x.cps 0 x.cps.size) ∨ (s.2.2.2 = false ∧ s.2.2.1 = false ∧ s.2.1 ≤ x.cps.size ∧ s.1.size + cntT x.cps s.2.1 (x.cps.size - s.2.1) = cntT x.cps 0 x.cps.size ∧ x.cps.size - s.2.1 + 1 ≤ n)) ?_ ?_ ?_)
  · rintro a n ⟨out, start, must, over⟩ p
    dsimp only at p ⊢
    rcases p with ⟨rfl, p⟩ | ⟨rfl, rfl, hs, hc, hn1⟩
    · rw [if_neg (by decide)]
      exact Go.pure ⟨rfl, _, rfl, .inl ⟨rfl, p⟩⟩
    · rw [if_pos (by decide)]
      rw [if_neg (show ¬ start > (tgt x t).lim by show ¬ start > x.cps.size; omega)]
      obtain ⟨k, hk, m, hm, f⟩ := searchF x.cps start hs
      refine Go.bind (Go.runEnd hm (by omega) f ?_)
      rcases f with ⟨e, no⟩ | ⟨e, i, hi, ht, hno, e1, e2⟩
      · rw [e]
        refine Go.pure ⟨rfl, _, rfl, .inl ⟨rfl, ?_⟩⟩
        rw [cnt_none _ _ _ no] at hc
        exact hc
      · rw [e]
        have h3 := (tri_next ht).1
        refine Go.bind (Go.mkStr ?_ fun tk => ?_)
        · show (Array.extract x.cps m.start m.handed).size ≤ sizeLine
          rw [Array.size_extract, sizeLine_eq, e1, e2]
          omega
        · refine Go.pure ⟨rfl, _, rfl, .inr ⟨rfl, ?_, ?_, ?_, ?_⟩⟩
          · show (m.handed == m.start) = false
            rw [e1, e2]; simp
          · show m.handed ≤ _
            rw [e2]; exact h3
          · show (out.push _).size + cntT x.cps m.handed (x.cps.size - m.handed) = _
            rw [e2, Array.size_push, ← hc, cnt_found hi ht hno]
            omega
          · show x.cps.size - m.handed + 1 ≤ n
            rw [e2]; omega
  · refine .inr ⟨rfl, rfl, Nat.zero_le _, ?_, ?_⟩
    · show 0 + cntT x.cps 0 (x.cps.size - 0) = _
      rw [Nat.sub_zero, Nat.zero_add]
    · rw [List.length_range]
      show x.cps.size - 0 + 1 ≤ 2 * x.cps.size + 3
      omega
  · rintro ⟨out, start, must, over⟩ p
    dsimp only at p ⊢
    rcases p with ⟨rfl, p⟩ | ⟨rfl, rfl, hs, hc, hn1⟩
    · rw [if_neg (by decide)]
      have hl : cntT x.cps 0 x.cps.size ≤ x.cps.size := by
        unfold cntT
        exact Nat.le_trans List.countP_le_length (by rw [List.length_range']; exact Nat.le_refl _)
      refine Go.bind (Go.newList (by rw [Array.length_toList, p, sizeLine_eq]; omega) (Go.ret (r _ ?_)))
      rw [Array.length_toList, p]
    · omega
end
end Mine
end
section
open PySem PySem.W PyProof.Rows PySem.Calls
set_option Elab.async false
set_option maxRecDepth 100000
set_option linter.unusedVariables false
set_option maxHeartbeats 0
namespace Mine
theorem slot_mdget : Slot "method_descriptor" (Str.ofString "__get__") "method_descriptor.__get__" :=
  .of (owner := "method_descriptor") (n := "__get__") (by rw [typeLookup_type, builtinLookup_eq_fast]; kernel_rfl) (by decide +kernel) (by decide +kernel) (by decide +kernel)
    (by first | exact .inl (by decide +kernel) | exact .inr (by decide +kernel)) (by rw [isSubtype_type]; kernel_rfl)
theorem entry_mdget : entryFor table "method_descriptor.__get__" = some Builtin.«method_descriptor.__get__» := entryFor_of_tree (by kernel_rfl)
theorem args_mdget (a b c : Value) : argsOk "method_descriptor.__get__" ⟨[a, b, c], []⟩ := by unfold argsOk; kernel_rfl
theorem noset_md : typeLookup (.type "method_descriptor") "__set__" = pure none := by rw [typeLookup_type, builtinLookup_eq_fast]; kernel_rfl
theorem nodel_md : typeLookup (.type "method_descriptor") "__delete__" = pure none := by rw [typeLookup_type, builtinLookup_eq_fast]; kernel_rfl
theorem lk_encode : typeLookup (.type "str") (Str.ofString "encode") = pure (some (.builtin "str.encode")) := by rw [typeLookup_type, builtinLookup_eq_fast]; kernel_rfl
theorem type_encode : typeOf (.builtin "str.encode") = pure (.type "method_descriptor") := by show builtinType _ = _; rw [builtinType_eq_fast]; kernel_rfl
theorem kind_hasattr : builtinKind "hasattr" = none := by decide +kernel
theorem plain_hasattr : plainId "hasattr" = true := by decide +kernel
theorem entry_hasattr : entryFor table "hasattr" = some Builtin.«hasattr» := entryFor_of_tree (by kernel_rfl)
theorem args_hasattr (a b : Value) : argsOk "hasattr" ⟨[a, b], []⟩ := by unfold argsOk; kernel_rfl
section
variable {w : World} {A : Around} {h h₀ : Heap}
theorem hasattr_eq {x : Str} {u v : Tok} : Builtin.«hasattr» ⟨[.str x u, .str (Str.ofString "encode") v], []⟩ = (do
    let found ← getAttrBy? (.str x u) (.str (Str.ofString "encode") v)
    if found.isNone && (0 : Nat) == 2 then unsupported "hasattr:an-optional-look-up-on-a-module-missed-behind-a-descriptor-of-its-type"
    PySem.ret (.bool found.isSome)) := by kernel_rfl
theorem find_eq {x : Str} {u : Tok} : Builtin.ObjectAttr.find (.str x u) (.type "str") (Str.ofString "encode") = (do rule "getattr.non-data-descriptor"; pure (.bind (.builtin "method_descriptor.__get__") (.builtin "str.encode"))) := by kernel_rfl
theorem getby_eq {x : Str} {u v : Tok} : getAttrBy (.str x u) (.str (Str.ofString "encode") v) false = holding [.str x u, .str (Str.ofString "encode") v] (getAttrByItsOwn (.str x u) (.str (Str.ofString "encode") v) (.type "str") (.builtin "object.__getattribute__") false false) := by kernel_rfl
theorem ga_eq {x : Str} {u v : Tok} : Builtin.«object.__getattribute__» ⟨[.str x u, .str (Str.ofString "encode") v], []⟩ = (do
    rule "getattr.non-data-descriptor"
    PySem.ret (← holding [.builtin "str.encode"] (call (.builtin "method_descriptor.__get__") [.builtin "str.encode", .str x u, .type "str"]))) := by kernel_rfl
theorem md_eq {x : Str} {u : Tok} : Builtin.«method_descriptor.__get__» ⟨[.builtin "str.encode", .str x u, .type "str"], []⟩ = (do PySem.ret (← newFields "builtin_function_or_method" [.builtin "str.encode", .str x u])) := by kernel_rfl
theorem own_eq {x : Str} {u v : Tok} : getAttrByItsOwn (.str x u) (.str (Str.ofString "encode") v) (.type "str") (.builtin "object.__getattribute__") false false = (do
   match ← (holding [] (call (.builtin "object.__getattribute__") [.str x u, .str (Str.ofString "encode") v])).attempt with
  | .ok v => handedOut v
  | .error e => getattributeRaised (.str x u) (.str (Str.ofString "encode") v) (.type "str") e none false false) := by kernel_rfl
theorem slot_ga : Slot "str" (Str.ofString "__getattribute__") "object.__getattribute__" := F.slot_str_getattribute
theorem ty_md {h : Heap} : TyIs h (.builtin "str.encode") "method_descriptor" := type_encode
theorem goHasattr {x : Str} {u v : Tok} {R : Value → Heap → Prop} (r : ∀ o, R (.bool true) (h.push o)) : Go w A (call (.builtin "hasattr") [.str x u, .str (Str.ofString "encode") v]) h R := by
  refine Go.fn kind_hasattr plain_hasattr entry_hasattr (args_hasattr _ _) ?_
  rw [hasattr_eq]
  refine Go.bind ?_
  unfold getAttrBy?
  rw [getby_eq, own_eq]
  refine Go.bind (Go.attempt (Go.holding (Go.bind (Go.attempt (Go.holding ?_)))))
  refine Go.slot slot_ga rfl F.entry_object_getattribute (F.args_object_getattribute_2 _ _) ?_
  rw [ga_eq]
  refine Go.bind (Go.rule (Go.bind (Go.holding ?_)))
  refine Go.slot slot_mdget ty_md entry_mdget (args_mdget _ _ _) ?_
  rw [md_eq]
  refine Go.bind (Go.newObj (by show 2 ≤ sizeLine + 2; omega) (Go.ret (Go.ret (Go.pure (Go.pure ?_)))))
  rw [if_neg (show ¬ ((some (Value.ref h.objs.size)).isNone && (0 : Nat) == 2) = true from Bool.false_ne_true)]
  exact Go.ret (r _)
end
end Mine
end
section
open PySem PySem.W PyProof.Rows PySem.Calls
set_option Elab.async false
set_option maxRecDepth 100000
set_option linter.unusedVariables false
set_option maxHeartbeats 0
namespace Mine
def u8 (l : List Nat) : List UInt8 := l.flatMap Str.utf8Of
section
variable {w : World} {A : Around} {h h₀ : Heap}
theorem goForIn {α σ : Type} {f : α → σ → Sem (ForInStep σ)} (P : Nat → σ → Prop) (D : σ → Prop) (turn : ∀ a n s, P (n + 1) s → Go w A (f a s) h fun r h' => h' = h ∧ ((∃ s', r = .yield s' ∧ P n s') ∨ ∃ s', r = .done s' ∧ D s')) (last : ∀ s, P 0 s → D s) : ∀ {l : List α} {s : σ} {R : σ → Heap → Prop}, P l.length s → (∀ s, D s → R s h) → Go w A (forIn l s f) h R
  | [], s, R, p, r => by rw [List.forIn_nil]; exact Go.pure (r s (last s p))
  | a :: l, s, R, p, r => by
    rw [List.forIn_cons]
    refine Go.bind ((turn a l.length s p).mono fun q h' y => ?_)
    obtain ⟨e1, ⟨s', e2, p'⟩ | ⟨s', e2, p'⟩⟩ := y
    · rw [e1, e2]
      exact goForIn P D turn last p' r
    · rw [e1, e2]
      exact Go.pure (r s' p')
theorem enc_eq {x : Str} {t u : Tok} : Builtin.«str.encode» ⟨[.str x t, .str (Str.ofString "utf-8") u], []⟩ = ((Builtin._codecs.encodeNarrow "str.encode" Builtin._codecs.utf8Codec none (.str x t) x >>= fun b => mkBytes b) >>= fun v => PySem.ret v) := by kernel_rfl
theorem enc_eq0 {x : Str} {t : Tok} : Builtin.«str.encode» ⟨[.str x t], []⟩ = ((Builtin._codecs.encodeNarrow "str.encode" Builtin._codecs.utf8Codec none (.str x t) x >>= fun b => mkBytes b) >>= fun v => PySem.ret v) := by kernel_rfl
theorem goNarrow {x : Str} {t : Tok} (hs : ∀ c ∈ x.cps.toList, Str.isSurrogate c = false) (hsz : (u8 x.cps.toList).toArray.size ≤ sizeLine) {R : Array UInt8 → Heap → Prop} (r : R (u8 x.cps.toList).toArray h) : Go w A (Builtin._codecs.encodeNarrow "str.encode" Builtin._codecs.utf8Codec none (.str x t) x) h R := by
  unfold Builtin._codecs.encodeNarrow
  simp only [Std.Legacy.Range.forIn_eq_forIn_range']
  have hres : ∀ i, i = 0 → Array.foldl (fun acc y => acc ++ (Builtin._codecs.utf8Codec.bytesOf y).toArray) #[] ((x.cps.extract i).extract 0 ((Array.findIdx? Builtin._codecs.utf8Codec.bad (x.cps.extract i)).getD (x.cps.extract i).size)) = (u8 x.cps.toList).toArray ∧ (Array.findIdx? Builtin._codecs.utf8Codec.bad (x.cps.extract i)).getD (x.cps.extract i).size = x.cps.size := by
    rintro i rfl
    have e1 : x.cps.extract 0 = x.cps := by simp
    rw [e1]
    have e2 : Array.findIdx? Builtin._codecs.utf8Codec.bad x.cps = none := by
      rw [Array.findIdx?_eq_none_iff]
      intro c hc
      exact hs c (by simpa using hc)
    rw [e2]
    refine ⟨?_, rfl⟩
    rw [Option.getD_none, show x.cps.extract 0 x.cps.size = x.cps by simp]
    rw [← Array.foldl_toList]
    have go : ∀ (l : List Nat) (acc : Array UInt8), l.foldl (fun acc y => acc ++ (Builtin._codecs.utf8Codec.bytesOf y).toArray) acc = acc ++ (u8 l).toArray := by
      intro l
      induction l with
      | nil => intro acc; simp [u8]
      | cons a l ih =>
        intro acc
        rw [List.foldl_cons, ih, u8, u8, List.flatMap_cons, ← List.append_toArray, Array.append_assoc]
        rfl
    rw [go]
    simp
  refine Go.bind (goForIn (fun n (s : Nat × Array UInt8 × Builtin._codecs.Faults) => (s.1 = 0 ∧ s.2.1 = #[] ∧ n = x.cps.size) ∨ (s.1 = x.cps.size ∧ s.2.1 = (u8 x.cps.toList).toArray ∧ s.2.1.size ≤ sizeLine)) (fun s => s.2.1 = (u8 x.cps.toList).toArray) ?_ ?_ ?_ ?_)
  · rintro a n ⟨i, out, st⟩ p
    dsimp only at p ⊢
    rcases p with ⟨rfl, rfl, hn⟩ | ⟨rfl, rfl, hz⟩
    · rw [if_neg (by show ¬ (0 : Nat) > sizeLine; omega)]
      have h0 : 0 < x.cps.size := by omega
      rw [Array.getElem?_eq_getElem h0]
      have hb : Builtin._codecs.utf8Codec.bad x.cps[0] = false := hs _ (by simp)
      dsimp only
      rw [hb, if_pos (by rfl)]
      refine Go.pure ⟨rfl, .inl ⟨_, rfl, .inr ⟨?_, ?_, ?_⟩⟩⟩
      · dsimp only
        rw [(hres 0 rfl).2, Nat.zero_add]
      · exact (hres 0 rfl).1
      · dsimp only
        rw [(hres 0 rfl).1]
        exact hsz
    · rw [if_neg (by omega), Array.getElem?_eq_none (Nat.le_refl _)]
      exact Go.pure ⟨rfl, .inr ⟨_, rfl, rfl⟩⟩
  · rintro ⟨i, out, st⟩ p
    dsimp only at p ⊢
    rcases p with ⟨rfl, rfl, hn⟩ | ⟨rfl, rfl, hz⟩
    · have : x.cps = #[] := Array.eq_empty_of_size_eq_zero hn.symm
      rw [this]
      rfl
    · rfl
  · refine .inl ⟨rfl, rfl, ?_⟩
    rw [List.length_range']
    show (x.length - 0 + 1 - 1) / 1 = _
    rw [Nat.div_one]
    rfl
  · rintro ⟨i, out, st⟩ e
    dsimp only at e
    rw [e]
    exact Go.pure r
end
end Mine
end
section
open PySem PySem.W PyProof.Rows PySem.Calls
set_option Elab.async false
set_option maxRecDepth 100000
set_option linter.unusedVariables false
set_option maxHeartbeats 0
namespace Mine
section
variable {w : World} {A : Around} {h h₀ : Heap}
theorem ty_str {x : Str} {t : Tok} : TyIs h (.str x t) "str" := rfl
theorem ty_bytes {x : Array UInt8} {t : Tok} : TyIs h (.bytes x t) "bytes" := rfl
theorem noRefS {x : Str} {t : Tok} : ∀ a, Value.str x t = .ref a → ∃ ob, h.get? a = some ob ∧ ob.dict = none := fun _ e => nomatch e
theorem noRefB {x : Array UInt8} {t : Tok} : ∀ a, Value.bytes x t = .ref a → ∃ ob, h.get? a = some ob ∧ ob.dict = none := fun _ e => nomatch e
theorem goEncode {x : Str} {t u : Tok} (hs : ∀ c ∈ x.cps.toList, Str.isSurrogate c = false) (hsz : (u8 x.cps.toList).toArray.size ≤ sizeLine) {R : Value → Heap → Prop} (r : ∀ t, R (.bytes (u8 x.cps.toList).toArray t) h) : Go w A (call (.builtin "str.encode") [.str x t, .str (Str.ofString "utf-8") u]) h R := by
  refine Go.slot F.slot_str_encode ty_str F.entry_str_encode (F.args_str_encode_2 _ _) ?_
  rw [enc_eq]
  exact Go.bind (Go.bind (goNarrow hs hsz (Go.mkBytes hsz fun t => Go.ret (r t))))
theorem goEncode0 {x : Str} {t : Tok} (hs : ∀ c ∈ x.cps.toList, Str.isSurrogate c = false) (hsz : (u8 x.cps.toList).toArray.size ≤ sizeLine) {R : Value → Heap → Prop} (r : ∀ t, R (.bytes (u8 x.cps.toList).toArray t) h) : Go w A (call (.builtin "str.encode") [.str x t]) h R := by
  refine Go.slot F.slot_str_encode ty_str F.entry_str_encode (F.args_str_encode_1 _) ?_
  rw [enc_eq0]
  exact Go.bind (Go.bind (goNarrow hs hsz (Go.mkBytes hsz fun t => Go.ret (r t))))
/-! count -/
theorem slot_count : Slot "bytes" (Str.ofString "count") "bytes.count" :=
  .of (owner := "bytes") (n := "count") (by rw [typeLookup_type, builtinLookup_eq_fast]; kernel_rfl) (by decide +kernel) (by decide +kernel) (by decide +kernel)
    (by first | exact .inl (by decide +kernel) | exact .inr (by decide +kernel)) (by rw [isSubtype_type]; kernel_rfl)
theorem entry_count : entryFor table "bytes.count" = some Builtin.«bytes.count» := entryFor_of_tree (by kernel_rfl)
theorem args_count (a b : Value) : argsOk "bytes.count" ⟨[a, b], []⟩ := by unfold argsOk; kernel_rfl
theorem type_count : typeOf (.builtin "bytes.count") = pure (.type "method_descriptor") := by show builtinType _ = _; rw [builtinType_eq_fast]; kernel_rfl
def winOf (n : Nat) : Option (Nat × Nat) := if (Builtin.Bytes.window n none none).2 - (Builtin.Bytes.window n none none).1 < 1 then none else some ((Builtin.Bytes.window n none none).1.toNat, (Builtin.Bytes.window n none none).2.toNat)
theorem count_eq {b : Array UInt8} {t u : Tok} : Builtin.«bytes.count» ⟨[.bytes b t, .bytes #[37] u], []⟩ = (match winOf b.size with
  | none => retInt 0
  | some (lo, hi) => retInt (Builtin.Bytes.occurrences b #[37] lo hi).length) := by kernel_rfl
theorem winOf_eq (n : Nat) : winOf n = if n = 0 then none else some (0, n) := by
  unfold winOf Builtin.Bytes.window
  simp only [Option.getD_none]
  by_cases e : n = 0
  · subst e; decide
  · rw [if_neg e, if_neg (by simp; omega)]
    simp
    omega
theorem occ_step (b : Array UInt8) : ∀ (l acc : List Nat) (k s : Nat), l = List.range' s k → s + k ≤ b.size → ∀ e ≤ s, ((l.foldl (fun (acc : List Nat × Nat) (i : Nat) => if (decide (i ≥ acc.2) && b.extract i (i + 1) == #[37]) = true then (i :: acc.1, i + 1) else acc) (acc, e)).1).length = acc.length + (((b.toList.drop s).take k).countP (· == 37))
  | [], acc, 0, s, _, _, e, _ => by simp
  | [], acc, k + 1, s, h, _, e, _ => by rw [List.range'_succ] at h; cases h
  | a :: l, acc, 0, s, h, _, e, _ => by cases h
  | a :: l, acc, k + 1, s, h, hk, e, he => by
    rw [List.range'_succ] at h
    obtain ⟨rfl, h2⟩ := List.cons.inj h
    have hs : a < b.size := by omega
    have ex : b.extract a (a + 1) = #[b[a]] := by
      apply Array.ext
      · simp; omega
      · intro i h1 h2
        have : i = 0 := by simp at h2; omega
        subst this
        simp
    have d1 : (b.toList.drop a) = b[a] :: b.toList.drop (a + 1) := by rw [List.drop_eq_getElem_cons (by simpa using hs)]; simp
    rw [List.foldl_cons, d1, List.take_succ_cons, ex]
    by_cases q : b[a] = 37
    · rw [if_pos (by rw [decide_eq_true (show a ≥ e by omega), q]; rfl), occ_step b l (a :: acc) k (a + 1) h2 (by omega) (a + 1) (Nat.le_refl _), List.countP_cons_of_pos (by simpa using q), List.length_cons]
      omega
    · rw [if_neg (by simp [q]), occ_step b l acc k (a + 1) h2 (by omega) e (by omega), List.countP_cons_of_neg (by simpa using q)]
theorem occ_count (b : Array UInt8) : (Builtin.Bytes.occurrences b #[37] 0 b.size).length = b.toList.countP (· == 37) := by
  unfold Builtin.Bytes.occurrences
  rw [List.length_reverse]
  have e : (List.range (b.size + 1 - (0 + (#[37] : Array UInt8).size))).map (· + 0) = List.range' 0 b.size := by
    rw [List.range_eq_range']
    simp
  rw [e]
  have := occ_step b _ [] b.size 0 rfl (by omega) 0 (Nat.le_refl _)
  rw [List.drop_zero, List.take_of_length_le (by simp), List.length_nil, Nat.zero_add] at this
  exact this
theorem goCount {b : Array UInt8} {t u : Tok} {R : Value → Heap → Prop} (r : ∀ t, R (.int (b.toList.countP (· == 37) : Nat) t) h) : Go w A (call (.builtin "bytes.count") [.bytes b t, .bytes #[37] u]) h R := by
  refine Go.slot slot_count ty_bytes entry_count (args_count _ _) ?_
  rw [count_eq, winOf_eq]
  by_cases e : b.size = 0
  · rw [if_pos e]
    have : b = #[] := Array.eq_empty_of_size_eq_zero e
    subst this
    exact Go.retInt fun t => r t
  · rw [if_neg e]
    refine Go.retInt fun t => ?_
    rw [occ_count]
    exact r t
end
end Mine
end
section
open PySem PySem.W PyProof.Rows PySem.Calls
set_option Elab.async false
set_option maxRecDepth 100000
set_option linter.unusedVariables false
set_option maxHeartbeats 0
namespace Mine
def lw (n : Nat) : Nat := [48, 49, 50, 51, 52, 53, 54, 55, 56, 57, 97, 98, 99, 100, 101, 102].getD n 0
theorem fmt_all {t u : Tok} : (List.range 256).map (fun k : Nat => Builtin.«int.__format__» ⟨[.int (Int.ofNat k) t, .str (Str.ofString "02x") u], []⟩) = (List.range 256).map fun k : Nat => retStr (SL [lw (k / 16), lw (k % 16)]) := by kernel_rfl
theorem fmt_eq {k : Nat} (hk : k < 256) {t u : Tok} : Builtin.«int.__format__» ⟨[.int (k : Int) t, .str (Str.ofString "02x") u], []⟩ = retStr (SL [lw (k / 16), lw (k % 16)]) := map_eq_mem fmt_all k (List.mem_range.mpr hk)
end Mine
end
section
open PySem PySem.W PyProof.Rows PySem.Calls
set_option Elab.async false
set_option maxRecDepth 100000
set_option linter.unusedVariables false
set_option maxHeartbeats 0
namespace Mine
def inS (x : Str) : Bool := decide (x ∈ sStrs.map (·.1))
section
variable {w : World} {A : Around} {h h₀ : Heap}
theorem goSetState {es : Array (Int × Value)} {n : Nat} {t : SetTable} (hg : h.get? 48 = some (setO es n t)) (hf : t.fits es.size = true) {R : Array (Int × Value) × Nat × SetTable → Heap → Prop} (r : R (es, n, t) h) : Go w A (setState 48) h R := Go.lib fun _ _ _ _ => wpAny_setState_of hg rfl hf ⟨rfl, rfl, rfl, r⟩
theorem goSetEpoch {es : Array (Int × Value)} {n : Nat} {t : SetTable} (hg : h.get? 48 = some (setO es n t)) (hf : t.fits es.size = true) {R : Nat → Heap → Prop} (r : R n h) : Go w A (setEpoch 48) h R := Go.lib fun _ _ _ _ => wpAny_setEpoch_of hg rfl hf ⟨rfl, rfl, rfl, r⟩
theorem goSetFind (T : TF h) {x : Str} {t : Tok} {hh : Int} {R : Option Nat → Heap → Prop} (r : ∀ o : Option Nat, o.isSome = inS x → R o h) : ∀ {k : Nat}, 0 < k → Go w A (setFindIn 48 (.str x t) hh k) h R
  | 0, q => absurd q (Nat.lt_irrefl _)
  | k + 1, _ => by
    obtain ⟨es, n, tb, hg, hf, hz, he, hm⟩ := T.set
    unfold setFindIn
    refine Go.bind (goSetState hg hf ?_)
    have exact : es.all (fun e => isExactStrKey e.2) = true := by
      rw [← Array.all_toList, List.all_eq_true]
      intro e q
      obtain ⟨y, tk, _, e2⟩ := he e q
      rw [e2]
      rfl
    have scan : es.all (fun e => e.2.scannable) = true := by
      rw [← Array.all_toList, List.all_eq_true]
      intro e q
      obtain ⟨y, tk, _, e2⟩ := he e q
      rw [e2]
      rfl
    have bs : byScan (.str x t) es = true := by
      unfold byScan
      rw [scan, hz]
      rfl
    dsimp only
    rw [bs, if_pos rfl]
    refine Go.bind (Go.rule (Go.bind ?_))
    show Go w A (if es.all (fun e => isExactStrKey e.2) = true then setScanStrs 48 (.str x t) x false es else _) h _
    rw [if_pos exact]
    unfold setScanStrs
    cases hfi : es.findIdx? (fun e => e.2.isStr x) with
    | none =>
      refine Go.pure (Go.pure (r _ ?_))
      rw [Array.findIdx?_eq_none_iff] at hfi
      unfold inS
      rw [Option.isSome_none, eq_comm, decide_eq_false_iff_not]
      intro q
      obtain ⟨hx, tk, q2⟩ := hm x q
      have := hfi _ (by simpa using q2)
      have e2 : (Value.str x tk).isStr x = true := by show (x == x) = true; exact beq_self_eq_true _
      rw [show ((hx, Value.str x tk) : Int × Value).2.isStr x = true from e2] at this
      cases this
    | some i =>
      rw [Array.findIdx?_eq_some_iff_getElem] at hfi
      obtain ⟨hi, hs, _⟩ := hfi
      dsimp only
      rw [Array.getElem?_eq_getElem hi]
      have hin : es[i] ∈ es.toList := by simp
      obtain ⟨y, tk, hy, e2⟩ := he _ hin
      generalize es[i] = ev at hs e2
      obtain ⟨hx, v⟩ := ev
      dsimp only at hs e2
      subst e2
      have hxy : y = x := by
        have : (y == x) = true := hs
        exact eq_of_beq this
      subst hxy
      refine Go.bind (goSetEpoch hg hf (Go.bind (Go.lib fun g d k os => wpAny_eqBool_str ⟨rfl, rfl, rfl, ?_⟩)))
      rw [decide_eq_true rfl]
      show Go w A (if (false && true) = true then _ else _) h _
      rw [if_neg (by decide)]
      refine Go.bind (goSetEpoch hg hf ?_)
      rw [if_neg (by simp), if_pos rfl]
      refine Go.pure (Go.pure (r _ ?_))
      unfold inS
      rw [decide_eq_true hy]
      rfl
theorem ty48 (T : TF h) : TyIs h (.ref 48) "set" := by
  obtain ⟨es, n, tb, hg, _⟩ := T.set
  exact ⟨_, hg, rfl⟩
theorem goInSet (T : TF h) {x : Str} {t : Tok} {R : Value → Heap → Prop} (r : R (.bool (inS x)) h) : Go w A (compareOp .In (.str x t) (.ref 48)) h R := by
  show Go w A (do return .bool (← contains (.ref 48) (.str x t))) h R
  refine Go.bind ?_
  unfold contains
  refine Go.holding ?_
  refine Go.bind (Go.specialOf (ty48 T) F.slot_set_contains.lookup ?_)
  show Go w A (if (some (Value.builtin "set.__contains__") == some Value.none) = true then _ else _) h _
  rw [if_neg (by rw [beq_builtin_none]; exact Bool.false_ne_true)]
  refine Go.bind ?_
  unfold callSpecialUnlessNone?
  refine Go.bind (Go.specialOf (ty48 T) F.slot_set_contains.lookup ?_)
  refine Go.holding ?_
  rw [F.slot_set_contains.bind (.ref 48)]
  refine Go.bind (Go.pure ?_)
  show Go w A (if (Value.builtin "set.__contains__" == Value.none) = true then _ else _) h _
  rw [if_neg (by decide)]
  refine Go.bind ?_
  refine Go.slot F.slot_set_contains (ty48 T) entry_set_contains (F.args_set_contains_2 _ _) ?_
  refine Go.bind (Go.pure ?_)
  refine Go.bind (Go.tryCatch (Go.holding (Go.bind (Go.lib fun g d k os => wpAny_pyHash_str ⟨rfl, rfl, rfl, ?_⟩))))
  refine Go.bind (goSetFind T (fun o ho => Go.pure ?_) (Nat.zero_lt_succ _))
  rw [ho]
  refine Go.ret (Go.pure ?_)
  exact Go.pure (Go.pure r)
end
end Mine
end
section
open PySem PySem.W PyProof.Rows PySem.Calls
set_option Elab.async false
set_option maxRecDepth 100000
set_option linter.unusedVariables false
set_option maxHeartbeats 0
namespace Mine
abbrev baO (b : Array UInt8) : Obj := { cls := .type "bytearray", data := .bytearray b 0 }
section
variable {w : World} {A : Around} {h h₀ : Heap}
theorem goStack (hu : A.units < 1000000) {R : List (Code × Pos) → Heap → Prop} (r : ∀ st : List (Code × Pos), (∀ x ∈ st, badC x.1 = false) → R st h) : Go w A PySem.stack h R := Go.mk fun g d k os Γ p i c => by
  refine ⟨rfl, rfl, rfl, r ((Γ.code, p) :: Γ.below) fun x hx => ?_⟩
  rcases List.mem_cons.mp hx with e | e
  · rw [e]; exact (c hu).1
  · exact (c hu).2 x e
theorem goExported (hu : A.units < 1000000) {self : Value} {R : Bool → Heap → Prop} (r : R false h) : Go w A (Builtin.Bytes.exported self) h R := by
  unfold Builtin.Bytes.exported
  refine Go.bind (goStack hu fun st hst => Go.pure ?_)
  have e : ∀ (f : Code × Pos → Bool), (∀ c p, badC c = false → f (c, p) = false) → st.any f = false := fun f hf => by
    rw [List.any_eq_false]
    intro x hx
    rw [hf x.1 x.2 (hst x hx)]
    exact Bool.false_ne_true
  rw [e _ ?_]
  · exact r
  · intro c p hb
    split
    · rename_i q; cases q; exact absurd (show badIds.contains "bytearray.__contains__" = false from hb) (by decide +kernel)
    · rename_i q; cases q; exact absurd (show badIds.contains "bytearray.__mod__" = false from hb) (by decide +kernel)
    · rename_i q; cases q; exact absurd (show badIds.contains "bytearray.__rmod__" = false from hb) (by decide +kernel)
    · rename_i q; cases q; exact absurd (show badIds.contains "_struct.pack_into.held" = false from hb) (by decide +kernel)
    · rename_i q; cases q; exact absurd (show badIds.contains "bytearray.find.held" = false from hb) (by decide +kernel)
    · rename_i id v _ _ _ _ _ _ _ _ q
      cases q
      have hb2 : badIds.contains id = false := hb
      unfold badIds at hb2
      rw [List.contains_append, Bool.or_eq_false_iff] at hb2
      rw [hb2.1, Bool.and_false]
    · rfl
theorem goCheckResize (hu : A.units < 1000000) {a : Addr} {b : Array UInt8} (hg : h.get? a = some (baO b)) {R : Unit → Heap → Prop} (r : R () h) : Go w A (Builtin.Bytes.checkResize (.ref a)) h R := by
  unfold Builtin.Bytes.checkResize
  refine Go.bind (Go.bind (goExported hu ?_))
  show Go w A (do return decide ((← Builtin.Bytes.exportsOf (.ref a)) > 0)) h _
  refine Go.bind (Go.bind (Go.load hg (Go.pure (Go.pure ?_))))
  exact Go.pure r
theorem goWrite {a : Addr} {b : Array UInt8} {f : Array UInt8 → Array UInt8} (hg : h.get? a = some (baO b)) (hz : (f b).size ≤ sizeLine) {R : Unit → Heap → Prop} (r : ∀ h', h'.get? a = some (baO (f b)) → Heap.SameBut a h h' → R () h') : Go w A (Builtin.Bytes.write (.ref a) f) h R := by
  show Go w A (updateBytearray a f) h R
  unfold updateBytearray
  refine Go.bind (Go.load hg ?_)
  have e : (h.update a (Obj.mapBytearray f)).get? a = some (baO (f b)) := Heap.get?_update_self _ hg rfl
  refine Go.bind (Go.update hg (Go.lib fun g d k os => wpAny_lookBehind e ?_ ⟨rfl, rfl, rfl, r _ e (Heap.SameBut.update ..)⟩))
  show (if (f b).size > sizeLine then some "bytearray:memory" else none) = none
  rw [if_neg (by omega)]
end
end Mine
end
section
open PySem PySem.W PyProof.Rows PySem.Calls
set_option Elab.async false
set_option maxRecDepth 100000
set_option linter.unusedVariables false
set_option maxHeartbeats 0
namespace Mine
theorem entry_ba_new : entryFor table "bytearray.__new__" = some Builtin.«list.__new__» := entryFor_alias (id' := "list.__new__") (by kernel_rfl) rfl (by decide +kernel) (by kernel_rfl)
theorem plain_ba_new : plainId "bytearray.__new__" = true := by decide +kernel
theorem newCall_ba : checkBuiltinCall "bytearray.__new__" ⟨[.type "bytearray"], []⟩ = pure () := by kernel_rfl
set_option maxRecDepth 1000000 in
theorem owner_ba : ("bytearray.__new__".splitOn ".__new__").headD "" = "bytearray" := by simp +decide [String.splitOn, String.splitOnAux]
theorem sub_ba : isSubtype (.type "bytearray") (.type "bytearray") = pure true := by rw [isSubtype_type]; kernel_rfl
theorem slot_ba_init : Slot "bytearray" (Str.ofString "__init__") "bytearray.__init__" :=
  .of (owner := "bytearray") (n := "__init__") (by rw [typeLookup_type, builtinLookup_eq_fast]; kernel_rfl) (by decide +kernel) (by decide +kernel) (by decide +kernel)
    (by first | exact .inl (by decide +kernel) | exact .inr (by decide +kernel)) (by rw [isSubtype_type]; kernel_rfl)
theorem entry_ba_init : entryFor table "bytearray.__init__" = some Builtin.«bytearray.__init__» := entryFor_of_tree (by kernel_rfl)
theorem args_ba_init (a : Value) : argsOk "bytearray.__init__" ⟨[a], []⟩ := by unfold argsOk; kernel_rfl
theorem tc_eq : Builtin.«type.__call__» ⟨[.type "bytearray"], []⟩ = (holding [.builtin "bytearray.__new__"] (call (.builtin "bytearray.__new__") [.type "bytearray"] []) >>= fun obj => isInstance obj (.type "bytearray") >>= fun b =>
    if (!b) = true then (do rule "type.call.new-gave-other-type"; PySem.ret obj) else holding [obj] (callSpecial? obj "__init__" [] []) >>= fun r => match r with
      | none => PySem.ret obj
      | some r => do
        if r != .none then
          rule "type.call.init-returned-value"
          raiseError "TypeError" s!"__init__() should return None, not '{← typeNameOf r}'"
        PySem.ret obj) := by kernel_rfl
section
variable {w : World} {A : Around} {h h₀ : Heap}
theorem goNewBa {R : Value → Heap → Prop} (r : R (.ref h.objs.size) (h.push (baO #[]))) : GoC w A (.call (.builtin "bytearray.__new__") ⟨[.type "bytearray"], []⟩) h (CallR R) := by
  refine GoC.tree rfl ?_
  show Go w A.in1 (do checkBuiltinCall "bytearray.__new__" ⟨[.type "bytearray"], []⟩; PySem.again (.builtin "bytearray.__new__" ⟨[.type "bytearray"], []⟩)) h _
  refine Go.bind (Go.eq newCall_ba (Go.pure (Go.pure ⟨plainId_quiet plain_ba_new _, GoC.lib fun g d k os => codeAny_builtin_stack entry_ba_new rfl fun p st => ?_⟩)))
  rw [Around.under_plainId plain_ba_new _]
  have hsub := sub_ba
  have hown := owner_ba
  simp only [hown]
  wp_walk
  exact ⟨rfl, rfl, rfl, r⟩
theorem tyBa {a : Addr} {b : Array UInt8} (hg : h.get? a = some (baO b)) : TyIs h (.ref a) "bytearray" := ⟨_, hg, rfl⟩
theorem look_ba_rel : typeLookup (.type "bytearray") (Str.ofString "__release_buffer__") = pure (some (.builtin "bytearray.__release_buffer__")) := by rw [typeLookup_type, builtinLookup_eq_fast]; kernel_rfl
theorem ends_rel : ("bytearray.__release_buffer__".endsWith ("." ++ "__release_buffer__")) = true := by decide +kernel
theorem drop_rel : "bytearray.__release_buffer__".dropRight ("__release_buffer__".length + 1) = "bytearray" := by decide +kernel
theorem goOwnRel {a : Addr} {b : Array UInt8} (hg : h.get? a = some (baO b)) {R : Bool → Heap → Prop} (r : R false h) : Go w A (Builtin.Bytes.ownRelease (.ref a)) h R := by
  unfold Builtin.Bytes.ownRelease Builtin.Bytes.slotIsOwn
  refine Go.bind (Go.bind (Go.specialOf (tyBa hg) look_ba_rel ?_))
  show Go w A (if (!"bytearray.__release_buffer__".endsWith ("." ++ "__release_buffer__")) = true then _ else _) h _
  rw [ends_rel, if_neg (by decide), drop_rel]
  exact Go.isInstance (tyBa hg) sub_ba (Go.pure r)
theorem bind_ba : Builtin.Bytes.bindOptional "bytearray.__init__" "bytearray" ["source", "encoding", "errors"] [] [] = pure [none, none, none] := by kernel_rfl
theorem goNotHeld (hu : A.units < 1000000) {a : Addr} {b : Array UInt8} (hg : h.get? a = some (baO b)) {R : Bool → Heap → Prop} (r : R false h) : Go w A (Builtin.Bytes.exported (.ref a) <||> (do return decide ((← Builtin.Bytes.exportsOf (.ref a)) > 0))) h R := by
  refine Go.bind (goExported hu ?_)
  show Go w A (do return decide ((← Builtin.Bytes.exportsOf (.ref a)) > 0)) h _
  exact Go.bind (Go.bind (Go.load hg (Go.pure (Go.pure r))))
theorem goInitBa (hu : A.units < 999990) {a : Addr} (hg : h.get? a = some (baO #[])) {R : Value → Heap → Prop} (r : ∀ h', h'.get? a = some (baO #[]) → Heap.SameBut a h h' → R .none h') : Go w A (call (.builtin "bytearray.__init__") [.ref a]) h R := by
  refine Go.slot slot_ba_init (tyBa hg) entry_ba_init (args_ba_init _) ?_
  unfold Builtin.«bytearray.__init__»
  refine Go.bind (goOwnRel hg ?_)
  rw [if_neg Bool.false_ne_true]
  refine Go.bind (Go.eq bind_ba (Go.pure ?_))
  dsimp only
  refine Go.bind (Go.pure (Go.bind (Go.pure (Go.bind (goNotHeld (by show A.units + 1 < _; omega) hg ?_)))))
  rw [if_neg Bool.false_ne_true]
  refine Go.bind (goWrite hg (by show 0 ≤ _; omega) fun h' g' s' => ?_)
  refine Go.bind (Go.pure ?_)
  exact Go.ret (r h' g' s')
theorem entryW {id : String} {args : Args} {b : Builtin} {R : Flow → Heap → Prop} {A' : Around} (hbad : badIds.contains id = false) (hb : entryFor table id = some b) (hu : A.under (.builtin id args) = A') (x : Go w A' (b args) h (FinR w A R)) : GoC w A (.builtin id args) h R := by
  refine GoC.tree hbad ?_
  rw [hu]
  show Go w A' (match entryFor table id with | some b => b args | none => unsupported ((withoutEnding? id "#data").getD id)) h _
  rw [hb]
  exact x
theorem bad_tc : badIds.contains "type.__call__" = false := by decide +kernel
theorem quiet_tc : (Code.builtin "type.__call__" ⟨[.type "bytearray"], []⟩).quiet = true := Code.quiet_builtin _ (by decide +kernel)
theorem goBytearray (hu : A.units < 999980) {R : Value → Heap → Prop} (r : ∀ h', Kp h h' → h'.get? h.objs.size = some (baO #[]) → R (.ref h.objs.size) h') : Go w A (call (.type "bytearray") []) h R := by
  refine Go.call (GoC.tree rfl ?_)
  show Go w A.in1 (PySem.again (.builtin "type.__call__" ⟨[.type "bytearray"], []⟩)) h _
  refine Go.pure ⟨quiet_tc, entryW bad_tc F.entry_type_call (Around.under_plain (weight_type_call_type "bytearray" [] []) (units_type_call_type "bytearray" [] [])) ?_⟩
  rw [tc_eq]
  refine Go.bind (Go.holding (Go.call (goNewBa ?_)))
  have hg : (h.push (baO #[])).get? h.objs.size = some (baO #[]) := Heap.get?_push_size _ rfl
  refine Go.bind (Go.isInstance (tyBa hg) sub_ba ?_)
  rw [if_neg (by simp)]
  refine Go.bind (Go.holding ?_)
  unfold callSpecial?
  refine Go.bind (Go.specialOf (tyBa hg) slot_ba_init.lookup (Go.holding ?_))
  rw [slot_ba_init.bind]
  refine Go.bind (Go.pure (Go.bind ((goInitBa (by show A.units + 1 < _; omega) hg fun h' g' s' => Go.pure ?_))))
  refine Go.bind (Go.pure ?_)
  exact Go.pure' (r h' (fun b o e => (s'.2 b (Nat.ne_of_lt (Heap.lt_size e))).trans (Heap.get?_push_of_some _ e)) g')
end
end Mine
end
section
open PySem PySem.W PyProof.Rows PySem.Calls
set_option Elab.async false
set_option maxRecDepth 100000
set_option linter.unusedVariables false
set_option maxHeartbeats 0
namespace Mine
theorem pa_ba : PlainAttrs "bytearray" :=
  ⟨⟨"bytearray.__getattribute__", by rw [typeLookup_type, builtinLookup_eq_fast]; kernel_rfl, by decide +kernel⟩, by rw [typeLookup_type, builtinLookup_eq_fast]; kernel_rfl⟩
theorem slot_extend : Slot "bytearray" (Str.ofString "extend") "bytearray.extend" :=
  .of (owner := "bytearray") (n := "extend") (by rw [typeLookup_type, builtinLookup_eq_fast]; kernel_rfl) (by decide +kernel) (by decide +kernel) (by decide +kernel)
    (by first | exact .inl (by decide +kernel) | exact .inr (by decide +kernel)) (by rw [isSubtype_type]; kernel_rfl)
theorem entry_extend : entryFor table "bytearray.extend" = some Builtin.«bytearray.extend» := entryFor_of_tree (by kernel_rfl)
theorem args_extend (a b : Value) : argsOk "bytearray.extend" ⟨[a, b], []⟩ := by unfold argsOk; kernel_rfl
theorem type_extend : typeOf (.builtin "bytearray.extend") = pure (.type "method_descriptor") := by show builtinType _ = _; rw [builtinType_eq_fast]; kernel_rfl
theorem slot_badecode : Slot "bytearray" (Str.ofString "decode") "bytearray.decode" :=
  .of (owner := "bytearray") (n := "decode") (by rw [typeLookup_type, builtinLookup_eq_fast]; kernel_rfl) (by decide +kernel) (by decide +kernel) (by decide +kernel)
    (by first | exact .inl (by decide +kernel) | exact .inr (by decide +kernel)) (by rw [isSubtype_type]; kernel_rfl)
theorem entry_badecode : entryFor table "bytearray.decode" = some Builtin.«bytearray.decode» := entryFor_of_tree (by kernel_rfl)
theorem args_badecode (a b : Value) : argsOk "bytearray.decode" ⟨[a, b], []⟩ := by unfold argsOk; kernel_rfl
theorem type_badecode : typeOf (.builtin "bytearray.decode") = pure (.type "method_descriptor") := by show builtinType _ = _; rw [builtinType_eq_fast]; kernel_rfl
theorem slot_upper : Slot "bytes" (Str.ofString "upper") "bytes.upper" :=
  .of (owner := "bytes") (n := "upper") (by rw [typeLookup_type, builtinLookup_eq_fast]; kernel_rfl) (by decide +kernel) (by decide +kernel) (by decide +kernel)
    (by first | exact .inl (by decide +kernel) | exact .inr (by decide +kernel)) (by rw [isSubtype_type]; kernel_rfl)
theorem entry_upper : entryFor table "bytes.upper" = some Builtin.«bytes.upper» := entryFor_of_tree (by kernel_rfl)
theorem args_upper (a : Value) : argsOk "bytes.upper" ⟨[a], []⟩ := by unfold argsOk; kernel_rfl
theorem type_upper : typeOf (.builtin "bytes.upper") = pure (.type "method_descriptor") := by show builtinType _ = _; rw [builtinType_eq_fast]; kernel_rfl
theorem upper_eq {b : Array UInt8} {t : Tok} : Builtin.«bytes.upper» ⟨[.bytes b t], []⟩ = (mkBytes (b.toList.map Builtin.Bytes.toUpper).toArray >>= fun v => PySem.ret v) := by kernel_rfl
theorem ord_eq {c : UInt8} {t : Tok} : Builtin.«ord» ⟨[.bytes #[c] t], []⟩ = retInt (c.toNat : Nat) := by kernel_rfl
theorem take_eq {m : Array UInt8} {t : Tok} : Builtin.Bytes.takeBufferQuiet? "bytearray.extend" (.bytes m t) 0 = (do pure (some (m, none))) := by kernel_rfl
section
variable {w : World} {A : Around} {h h₀ : Heap}
theorem goUpper {b : Array UInt8} {t : Tok} {R : Value → Heap → Prop} (hz : b.size ≤ sizeLine) (r : ∀ t, R (.bytes (b.toList.map Builtin.Bytes.toUpper).toArray t) h) : Go w A (call (.builtin "bytes.upper") [.bytes b t]) h R := by
  refine Go.slot slot_upper ty_bytes entry_upper (args_upper _) ?_
  rw [upper_eq]
  exact Go.bind (Go.mkBytes (by simpa using hz) fun t => Go.ret (r t))
theorem goOrdB {c : UInt8} {t : Tok} {R : Value → Heap → Prop} (r : ∀ t, R (.int (c.toNat : Nat) t) h) : Go w A (call (.builtin "ord") [.bytes #[c] t]) h R := by
  refine Go.fn F.kind_ord F.plain_ord F.entry_ord (F.args_ord1 _) ?_
  rw [ord_eq]
  exact Go.retInt r
theorem goSliceB {b : Array UInt8} {t : Tok} {a : Addr} {l u : Value} {lo hi : Option Int} (hs : h.IsSliceOf a l u .none) (pl : IsPart l lo) (pu : IsPart u hi) (hz : (KBy.picked b lo hi).size ≤ sizeLine) {R : Value → Heap → Prop} (r : ∀ t, R (.bytes (KBy.picked b lo hi) t) h) : Go w A (getItem (.bytes b t) (.ref a)) h R := Go.lib fun g d k os =>
  getItem_meets (typeIs_bytes _ _ _) (by decide) FB.slot_bytes_getitem FB.entry_bytes_getitem (FB.args_bytes_getitem_2 _ _) (KBc.meets_slice2 b t a pl pu) ⟨hs, hz, fun t' k => ⟨rfl, rfl, rfl, r t'⟩⟩
theorem goExtend (hu : A.units < 999990) {a : Addr} {b m : Array UInt8} {t : Tok} (hg : h.get? a = some (baO b)) (hz : b.size + m.size ≤ sizeLine) {R : Value → Heap → Prop} (r : ∀ h', h'.get? a = some (baO (b ++ m)) → Heap.SameBut a h h' → R .none h') : Go w A (call (.builtin "bytearray.extend") [.ref a, .bytes m t]) h R := by
  refine Go.slot slot_extend (tyBa hg) entry_extend (args_extend _ _) ?_
  unfold Builtin.«bytearray.extend»
  refine Go.bind (Go.pure ?_)
  dsimp only
  refine Go.bind (Go.specialOf ty_bytes KBy.look_buffer ?_)
  rw [if_pos (show (some (Value.builtin "bytes.__buffer__")).isSome = true from rfl)]
  refine Go.bind (Go.rule (Go.bind (Go.bind (Go.bind (Go.load hg (Go.pure (Go.pure ?_)))))))
  refine Go.bind (Go.eq take_eq (Go.pure ?_))
  show Go w A.in1 (if (!m.isEmpty) = true then (do Builtin.Bytes.checkResize (.ref a); Builtin.Bytes.write (.ref a) (· ++ m); PySem.ret .none) else (do Builtin.Bytes.write (.ref a) (· ++ m); PySem.ret .none)) h _
  have fin : Go w A.in1 (do Builtin.Bytes.write (.ref a) (· ++ m); PySem.ret .none) h (FinR w A (CallR R)) := Go.bind (goWrite hg (by rw [Array.size_append]; exact hz) fun h' g' s' => Go.ret (r h' g' s'))
  split
  · exact Go.bind (goCheckResize (by show A.units + 1 < _; omega) hg fin)
  · exact fin
end
end Mine
end
section
open PySem PySem.W PyProof.Rows PySem.Calls
set_option Elab.async false
set_option maxRecDepth 100000
set_option linter.unusedVariables false
set_option maxHeartbeats 0
namespace Mine
theorem look_ba_buf : typeLookup (.type "bytearray") (Str.ofString "__buffer__") = pure (some (.builtin "bytearray.__buffer__")) := by rw [typeLookup_type, builtinLookup_eq_fast]; kernel_rfl
theorem ends_buf : ("bytearray.__buffer__".endsWith ("." ++ "__buffer__")) = true := by decide +kernel
theorem drop_buf : "bytearray.__buffer__".dropRight ("__buffer__".length + 1) = "bytearray" := by decide +kernel
section
variable {w : World} {A : Around} {h h₀ : Heap}
theorem goOwnBuf {a : Addr} {b : Array UInt8} (hg : h.get? a = some (baO b)) {R : Bool → Heap → Prop} (r : R true h) : Go w A (Builtin.Bytes.slotIsOwn (.ref a) "__buffer__") h R := by
  unfold Builtin.Bytes.slotIsOwn
  refine Go.bind (Go.specialOf (tyBa hg) look_ba_buf ?_)
  show Go w A (if (!"bytearray.__buffer__".endsWith ("." ++ "__buffer__")) = true then _ else _) h _
  rw [ends_buf, if_neg (by decide), drop_buf]
  exact Go.isInstance (tyBa hg) sub_ba r
theorem goBuffer {a : Addr} {id : String} {b : Array UInt8} (hg : h.get? a = some (baO b)) {R : Option (Array UInt8) → Heap → Prop} (r : R (some b) h) : Go w A (Builtin.Bytes.buffer? id (.ref a)) h R := by
  unfold Builtin.Bytes.buffer?
  refine Go.bind (Go.specialOf (tyBa hg) look_ba_buf ?_)
  refine Go.bind (goOwnBuf hg ?_)
  rw [if_neg (by decide)]
  refine Go.bind (Go.specialOf (tyBa hg) look_ba_buf ?_)
  refine Go.bind (goOwnRel hg ?_)
  rw [if_neg (by decide)]
  exact Go.bind (Go.bind (Go.bind (Go.load hg (Go.pure (Go.pure (Go.pure r))))))
theorem goBytesLike {a : Addr} {id : String} {b : Array UInt8} (hg : h.get? a = some (baO b)) {R : Array UInt8 → Heap → Prop} (r : R b h) : Go w A (Builtin.Bytes.bytesLike id (.ref a)) h R := by
  unfold Builtin.Bytes.bytesLike
  exact Go.bind (goBuffer hg (Go.pure r))
theorem road_ba {id : String} {b : Array UInt8} {a : Addr} : Builtin._codecs.decodeRoad id b (Str.ofString "utf-8") none [.ref a] = (Builtin._codecs.runDecoder id Builtin._codecs.utf8Decoder none true b 0 [.ref a] >>= fun r => mkStr ⟨r.1⟩) := by kernel_rfl
theorem goRun {id : String} {b : Array UInt8} {held : List Value} (hb : ∀ c ∈ b.toList, c.toNat < 128) (hz : b.size ≤ sizeLine) {R : Array Nat × Nat → Heap → Prop} (r : ∀ n, R ((b.toList.map (·.toNat)).toArray, n) h) : Go w A (Builtin._codecs.runDecoder id Builtin._codecs.utf8Decoder none true b 0 held) h R := by
  unfold Builtin._codecs.runDecoder
  simp only [Std.Legacy.Range.forIn_eq_forIn_range']
  refine Go.bind (goForIn (fun n (s : Nat × Array Nat × Builtin._codecs.Faults) => s.1 + n = b.size ∧ s.2.1 = ((b.toList.take s.1).map (·.toNat)).toArray) (fun s => s.2.1 = (b.toList.map (·.toNat)).toArray) ?_ ?_ ?_ ?_)
  · rintro x n ⟨p, out, st⟩ ⟨hp, ho⟩
    dsimp only at hp ho ⊢
    have hlt : p < b.size := by omega
    have hl : out.size ≤ sizeLine := by rw [ho]; simp; omega
    rw [if_neg (by omega), if_neg (by omega)]
    have hc := hb b[p] (by simp)
    have gd : b.getD p 0 = b[p] := by simp [Array.getD, hlt]
    have e8 : Builtin.Bytes.utf8At b p = (.char b[p].toNat, p + 1) := by
      unfold Builtin.Bytes.utf8At
      rw [gd, if_pos hc]
    have ef : Builtin._codecs.utf8Decoder.find true b p = .text [b[p].toNat] (p + 1) := by
      show (match Builtin.Bytes.utf8At b p with | (.char c, next) => _ | (.bad _ stop reason, _) => _) = _
      rw [e8]
      rfl
    rw [ef]
    refine Go.pure ⟨rfl, .inl ⟨_, rfl, by dsimp only; omega, ?_⟩⟩
    dsimp only
    rw [ho, List.take_add_one, List.map_append]
    simp [hlt]
  · rintro ⟨p, out, st⟩ ⟨hp, ho⟩
    dsimp only at hp ho ⊢
    rw [ho, List.take_of_length_le (by simp; omega)]
  · refine ⟨?_, by simp⟩
    rw [List.length_range']
    show 0 + (b.size - 0 + 1 - 1) / 1 = _
    rw [Nat.div_one]
    omega
  · rintro ⟨p, out, st⟩ e
    dsimp only at e
    rw [e]
    exact Go.pure (r p)
theorem bind_dec {u : Tok} : Builtin.Bytes.bindOptional (toString Builtin.Bytes.Kind.bytearray.name ++ toString ".decode") "decode" ["encoding", "errors"] [.str (Str.ofString "utf-8") u] [] = pure [some (.str (Str.ofString "utf-8") u), none] := by kernel_rfl
theorem codec_dec {u : Tok} : Builtin.Bytes.checkCodecArg (toString Builtin.Bytes.Kind.bytearray.name ++ toString ".decode") "decode" "encoding" (some (.str (Str.ofString "utf-8") u)) = pure () := by kernel_rfl
theorem goText {a : Addr} {b : Array UInt8} {t1 t2 : Tok} {d : Str} (hg : h.get? a = some (baO b)) (hb : ∀ c ∈ b.toList, c.toNat < 128) (hz : b.size ≤ sizeLine) {R : Value → Heap → Prop} (r : ∀ t, R (.str (SL (b.toList.map (·.toNat))) t) h) : Go w A (call (.builtin "_codecs.decode.text") [.ref a, .str (Str.ofString "utf-8") t1, .none, .str d t2]) h R := by
  refine Go.call (GoC.big (GoC.builtinB (Nat.le_add_left ..) KBd.plain_text KBd.entry_text (Go.check_fn KBd.kind_text (KBd.args_text _ _ _ _) ?_)))
  unfold Builtin.«_codecs.decode.text»
  refine Go.bind (Go.pure ?_)
  refine Go.bind (goBytesLike hg ?_)
  unfold Builtin._codecs.dataHeld
  refine Go.bind (Go.bind (goBytesLike hg (Go.pure ?_)))
  rw [road_ba]
  refine Go.bind (Go.bind (goRun hb hz fun n => ?_))
  refine Go.mkStr ?_ fun t => Go.ret (r t)
  rw [SL_len]
  simpa using hz
theorem goDecode {a : Addr} {b : Array UInt8} {u : Tok} (hg : h.get? a = some (baO b)) (hb : ∀ c ∈ b.toList, c.toNat < 128) (hz : b.size ≤ sizeLine) {R : Value → Heap → Prop} (r : ∀ t, R (.str (SL (b.toList.map (·.toNat))) t) h) : Go w A (call (.builtin "bytearray.decode") [.ref a, .str (Str.ofString "utf-8") u]) h R := by
  refine Go.slot slot_badecode (tyBa hg) entry_badecode (args_badecode _ _) ?_
  unfold Builtin.«bytearray.decode» Builtin.Bytes.decodeM
  refine Go.bind (Go.eq bind_dec (Go.pure ?_))
  refine Go.bind (Go.eq codec_dec (Go.pure ?_))
  refine Go.bind (Go.pure ?_)
  dsimp only
  rw [if_pos (by decide)]
  refine Go.bind (goOwnRel hg ?_)
  rw [if_neg (by decide)]
  refine Go.bind (Go.specialOf (tyBa hg) look_ba_buf ?_)
  refine Go.bind (goOwnBuf hg ?_)
  rw [if_neg (by decide)]
  unfold Builtin.Bytes.thenGiveBack
  refine Go.bind (Go.bind (Go.bind (Go.load hg (Go.pure (Go.pure ?_)))))
  by_cases e : b.isEmpty = true
  · rw [if_pos e]
    refine Go.bind (Go.rule (Go.retStr (by show 0 ≤ _; omega) fun t => ?_))
    have : b = #[] := by simpa using e
    rw [this] at r
    exact r t
  · rw [if_neg e]
    refine Go.bind (Go.mkStr (by rw [sizeLine_eq]; decide) fun _ => ?_)
    refine Go.bind (Go.bind (Go.pure (Go.mkStr (by rw [sizeLine_eq]; decide) fun _ => ?_)))
    refine Go.bind (Go.pure (Go.bind (Go.mkStr (by rw [sizeLine_eq]; decide) fun _ => Go.bind (goText hg hb hz fun t => Go.ret (r t)))))
end
end Mine
end
section
open PySem PySem.W PyProof.Rows PySem.Calls
set_option Elab.async false
set_option maxRecDepth 100000
set_option linter.unusedVariables false
set_option maxHeartbeats 0
namespace Mine
theorem dec_all {id : String} : (List.range 128).map (fun k : Nat => Builtin._codecs.runDecoder id Builtin._codecs.utf8Decoder none true #[UInt8.ofNat k] 0 []) = (List.range 128).map fun k : Nat => pure (#[k], 1) := by kernel_rfl
theorem is_none_str {x : Str} {t : Tok} : compareOp .Is (.str x t) .none = pure (.bool false) := by kernel_rfl
theorem is_none_none : compareOp .Is .none .none = pure (.bool true) := by kernel_rfl
section
variable {w : World} {A : Around} {h h₀ : Heap} {env : Env}
theorem goDecode1 {c : UInt8} {t : Tok} (hc : c.toNat < 128) {R : Value → Heap → Prop} (r : ∀ t, R (.str ⟨#[c.toNat]⟩ t) h) : Go w A (call (.builtin "bytes.decode") [.bytes #[c] t]) h R := Go.lib fun g d k os =>
  KBd.decode (c := c) (cs := []) (x := ⟨#[c.toNat]⟩) (n := 1) (fun id => by
    have e := map_eq_mem (dec_all (id := id)) c.toNat (List.mem_range.mpr hc)
    rw [show UInt8.ofNat c.toNat = c from by simp] at e
    exact e) (by show 1 ≤ 16777216; decide) fun t' k' => ⟨rfl, rfl, rfl, r t'⟩
theorem goRange2 {a b : Int} {t u : Tok} {R : Value → Heap → Prop} (r : ∀ v, R (.ref h.objs.size) (h.push { cls := .type "range", data := .fields #[.int a t, .int b u, .int 1 v] })) : Go w A (call (.type "range") [.int a t, .int b u]) h R := Go.lib fun g d k os => call_range_2 ⟨rfl, rfl, rfl, r _⟩
theorem goRange1 {b : Int} {u : Tok} {R : Value → Heap → Prop} (r : ∀ t v, R (.ref h.objs.size) (h.push { cls := .type "range", data := .fields #[.int 0 t, .int b u, .int 1 v] })) : Go w A (call (.type "range") [.int b u]) h R := Go.lib fun g d k os => call_range_1 ⟨rfl, rfl, rfl, r _ _⟩
theorem goIterR {a : Addr} {x y : Int} {t u v : Tok} (hr : IsRange h a x y 1 t u v) (hs : Builtin.Range.small x y 1 = true) {R : Value → Heap → Prop} (r : R (.ref h.objs.size) (h.push { cls := .type "range_iterator", data := .fields #[rawInt x, rawInt (Builtin.Range.rangeSize x y 1), rawInt 1] })) : Go w A (pyIter (.ref a)) h R := Go.lib fun g d k os => wpAny_pyIter_range hr hs ⟨rfl, rfl, rfl, r⟩
theorem goFmt {k : Nat} {t : Tok} (hk : k < 256) {R : Value → Heap → Prop} (r : ∀ t, R (.str (SL [lw (k / 16), lw (k % 16)]) t) h) : Go w A (formatField (.int (k : Int) t) (Str.ofString "02x")) h R := by
  show Go w A (holding [.int (k : Int) t] (pyFormat (.int (k : Int) t) (Str.ofString "02x"))) h R
  refine Go.holding ?_
  unfold pyFormat
  refine Go.bind (Go.mkStr (by rw [sizeLine_eq]; decide) fun u => ?_)
  unfold callSpecial?
  refine Go.bind (Go.bind (Go.specialOf (T := "int") rfl F.slot_int_format.lookup (Go.holding ?_)))
  rw [F.slot_int_format.bind]
  refine Go.bind (Go.pure (Go.bind (Go.slot F.slot_int_format (rfl : TyIs h (.int (k : Int) t) "int") F.entry_int_format (F.args_int_format_2 _ _) ?_)))
  show Go w A.in1 (Builtin.«int.__format__» ⟨[.int (k : Int) t, .str (Str.ofString "02x") u], []⟩) h _
  rw [fmt_eq hk]
  refine Go.retStr (by rw [SL_len, sizeLine_eq]; show 2 ≤ 16777216; decide) fun t => Go.pure ?_
  exact Go.bind (Go.isInstance (T := "str") rfl isSubtype_str_str (Go.pure (r t)))
theorem goFV {value : Expr} {spec : Str} {kk : Nat} {p1 p2 p3 : Pos} {R : Value → Heap → Prop} (x : Go w A (eval value env) h fun v h1 => Go w A (formatField v spec) h1 R) : Go w A (eval (.FormattedValue value (-1) (some (.JoinedStr [.Constant (.str spec) kk p1] p2)) p3) env) h R := by
  rw [arm_eval_FormattedValue]
  refine Go.bind (x.mono fun v h1 y => Go.bind (Go.standAt ?_))
  refine Go.bind (Go.holding (Go.pure ?_))
  exact Go.bind (Go.holding (Go.mkText fun t => Go.bind (Go.standAt y)))
theorem empty_app (x : Str) : Str.empty ++ x = x := by
  show (⟨#[] ++ x.cps⟩ : Str) = x
  rw [Array.empty_append]
theorem goFstr {a b : Expr} {p : Pos} {R : Value → Heap → Prop} (x : Go w A (eval a env) h fun v h1 => ∃ y t, v = .str y t ∧ y.length ≤ 1000 ∧ Go w A (eval b env) h1 fun v2 h2 => ∃ z t, v2 = .str z t ∧ z.length ≤ 1000 ∧ ∀ t, R (.str (y ++ z) t) h2) : Go w A (eval (.JoinedStr [a, b] p) env) h R := by
  rw [arm_eval_JoinedStr]
  show Go w A (joinParts Str.empty [eval a env, eval b env]) h R
  rw [joinParts]
  refine Go.bind (x.mono fun v h1 q => ?_)
  obtain ⟨y, t, rfl, hy, q⟩ := q
  refine Go.bind (Go.pure ?_)
  have z0 : Str.empty.length = 0 := rfl
  dsimp only
  rw [if_neg (by rw [z0, sizeLine_eq]; omega), empty_app, joinParts]
  refine Go.bind (q.mono fun v h2 q => ?_)
  obtain ⟨z, t, rfl, hz, q⟩ := q
  refine Go.bind (Go.pure ?_)
  dsimp only
  rw [if_neg (by rw [sizeLine_eq]; omega)]
  show Go w A (mkStr (y ++ z)) h2 R
  exact Go.mkStr (by rw [strLen_append, sizeLine_eq]; omega) q
theorem goExprNone {e : Expr} {pos : Pos} {S : Flow → Heap → Prop} (x : Go w A (eval e env) h fun v h1 => v = .none ∧ S .next h1) (hi : interactive env = false) (hs : swapsWith e none pos.line env = pure false) : Go w A (exec (.Expr e pos) env) h S := by
  rw [exec_Expr env e pos hi hs]
  refine Go.bind (Go.standAt (Go.bind (x.mono fun v h1 y => ?_)))
  obtain ⟨rfl, q⟩ := y
  rw [dropValue_plain (fun a e => by cases e)]
  exact Go.pure q
end
end Mine
end
section
open PySem PySem.W PyProof.Rows PySem.Calls
set_option Elab.async false
set_option maxRecDepth 100000
set_option linter.unusedVariables false
set_option maxHeartbeats 0
namespace Mine
abbrev nB : Str := Str.ofString "b"
abbrev nS : Str := Str.ofString "s"
abbrev nEnc : Str := Str.ofString "encoding"
section
variable {w : World} {A : Around} {h h₀ : Heap} {env : Env}
theorem tostr_spec (T : TF h) (hroom : A.depth < recursionLimit) (hh : A.handled = none) (v e : Value) : Go w A (call (.ref 39) [v, e]) h fun r h' => Kp h h' ∧ r = v := by
  refine Go.enterT (i := 2) (c := 38) (dv := .ref 32) (pm := .str (strOf 1) 282) (body := bd 2) (binds := [(nB, v), (nEnc, e)]) T (by omega) (fun h₁ T₁ F => ?_) ⟨0, by kernel_rfl⟩ ⟨0, by kernel_rfl⟩ (by kernel_rfl) (fun s e => ?_) (by decide +kernel) ?_ (by kernel_rfl) (by kernel_rfl) (by kernel_rfl)
  · refine Go.cons_eq rfl (Go.cons (Go.return_ (Go.nameL F (v := v) (by kernel_rfl) ⟨F.keep, rfl⟩)))
  · exact .of_defaults (T := 32) (o := utfTup 284) (by kernel_rfl) (by rw [e]; exact T.objs (32, _) (List.mem_of_getElem? (i := 8) rfl)) rfl rfl (by kernel_rfl)
  · intro x hx
    simp only [List.mem_cons, List.not_mem_nil, or_false] at hx
    rcases hx with rfl | rfl <;> kernel_rfl
theorem tobytes_spec (T : TF h) (hroom : A.depth < recursionLimit) (hh : A.handled = none) (l : List Nat) (hs : ∀ c ∈ l, Str.isSurrogate c = false) (hz : (u8 l).length ≤ 1000000) (t : Tok) (e : Value) : Go w A (call (.ref 47) [.str (SL l) t, e]) h fun r h' => Kp h h' ∧ ∃ t, r = .bytes (u8 l).toArray t := by
  refine Go.enterT (i := 3) (c := 46) (dv := .ref 40) (pm := .str (strOf 1) 282) (body := bd 3) (binds := [(nS, .str (SL l) t), (nEnc, e)]) T (by omega) (fun h₁ T₁ F => ?_) ⟨1, by kernel_rfl⟩ ⟨1, by kernel_rfl⟩ (by kernel_rfl) (fun s e => ?_) (by decide +kernel) ?_ (by kernel_rfl) (by kernel_rfl) (by kernel_rfl)
  · refine Go.cons_eq rfl (Go.cons (Go.if_ (Go.isTAnd (Go.andCons (Go.isTPlain ?_)))))
    refine Go.callE (Go.nameB T₁ (v := .builtin "hasattr") (Go.cwB (Go.spE (Go.nameL F (v := .str (SL l) t) (by kernel_rfl) (Go.spE (Go.cStr fun _ => Go.spZ (goHasattr fun o => ?_)))))))
    refine Go.tBool ?_
    rw [if_pos rfl]
    have F2 := F.push o
    have T2 := T.keeps F2.keep
    refine Go.andCons (Go.isTNot (Go.isTPlain ?_))
    refine Go.callE (Go.nameB T2 (v := .builtin "isinstance") (Go.cwB (Go.spE (Go.nameL F2 (v := .str (SL l) t) (by kernel_rfl) (Go.spE (Go.nameB T2 (v := .type "bytes") (Go.spZ (Go.lib fun g d k os => IsiPair.str_bytes ⟨rfl, rfl, rfl, ?_⟩))))))))
    refine Go.tBool ?_
    rw [if_pos (show (!false) = true from rfl)]
    refine Go.andNil ?_
    rw [if_pos rfl]
    refine Go.cons (Go.assign (Go.meth PySem.F.plainAttrs_str PySem.F.slot_str_encode PySem.F.type_str_encode (Go.nameL F2 (v := .str (SL l) t) (by kernel_rfl) ⟨ty_str, noRefS, Go.cwB (Go.spE (Go.cStr fun _ => Go.spZ (goEncode hs (by simpa [sizeLine_eq] using (by omega : (u8 l).length ≤ 16777216)) fun tb => ⟨_, _, F2, fun h' F3 hs3 => ?_⟩)))⟩)))
    refine Go.nil (Go.cons (Go.return_ (Go.nameL F3 (upd_eq _ _ _) ⟨F3.keep, tb, rfl⟩)))
  · exact .of_defaults (T := 40) (o := utfTup 293) (by kernel_rfl) (by rw [e]; exact T.objs (40, _) (List.mem_of_getElem? (i := 9) rfl)) rfl rfl (by kernel_rfl)
  · intro x hx
    simp only [List.mem_cons, List.not_mem_nil, or_false] at hx
    rcases hx with rfl | rfl <;> kernel_rfl
end
end Mine
end
section
open PySem PySem.W PyProof.Rows PySem.Calls
set_option Elab.async false
set_option maxRecDepth 100000
set_option linter.unusedVariables false
set_option maxHeartbeats 0
namespace Mine
abbrev nUri : Str := Str.ofString "uri_component"
abbrev nPE : Str := Str.ofString "percent_encodings"
abbrev nUB : Str := Str.ofString "uri_bytes"
abbrev nIP : Str := Str.ofString "is_percent_encoded"
abbrev nEU : Str := Str.ofString "encoded_uri"
abbrev nI : Str := Str.ofString "i"
abbrev nByte : Str := Str.ofString "byte"
abbrev nBO : Str := Str.ofString "byte_ord"
def keepB (b : Bool) (c : UInt8) : Bool := (b && (([c] : List UInt8) == [37])) || (decide (c.toNat < 128) && inS ⟨#[c.toNat]⟩)
def outB (b : Bool) (c : UInt8) : List UInt8 := if keepB b c = true then [c] else (u8 ([37] ++ [lw (c.toNat / 16), lw (c.toNat % 16)])).map Builtin.Bytes.toUpper
def bE (l : List Nat) : Bool := ((cntT l.toArray 0 l.toArray.size : Nat) : Int) == (((u8 l).toArray.toList.countP (· == 37) : Nat) : Int)
def encL (l : List Nat) : List Nat := ((u8 l).flatMap (outB (bE l))).map (·.toNat)
theorem lw_all : ∀ k < 16, lw k < 128 ∧ Str.isSurrogate (lw k) = false := by decide +kernel
theorem fmt3_ok : ∀ k < 256, (∀ c ∈ [37] ++ [lw (k / 16), lw (k % 16)], Str.isSurrogate c = false) ∧ ((u8 ([37] ++ [lw (k / 16), lw (k % 16)])).map Builtin.Bytes.toUpper).length = 3 ∧ (∀ c ∈ (u8 ([37] ++ [lw (k / 16), lw (k % 16)])).map Builtin.Bytes.toUpper, c.toNat < 128) ∧ (u8 ([37] ++ [lw (k / 16), lw (k % 16)])).length = 3 := by decide +kernel
theorem outB_len (b : Bool) (c : UInt8) : (outB b c).length ≤ 3 := by
  unfold outB
  split
  · simp
  · rw [(fmt3_ok c.toNat c.toNat_lt).2.1]
    exact Nat.le_refl _
theorem outB_ascii (b : Bool) (c : UInt8) : ∀ x ∈ outB b c, x.toNat < 128 := by
  intro x hx
  unfold outB at hx
  split at hx
  · rename_i hk
    rw [List.mem_singleton] at hx
    subst hx
    unfold keepB at hk
    rw [Bool.or_eq_true, Bool.and_eq_true, Bool.and_eq_true] at hk
    rcases hk with ⟨_, e⟩ | ⟨e, _⟩
    · have : x = 37 := by simpa using e
      rw [this]; decide
    · exact of_decide_eq_true e
  · exact (fmt3_ok c.toNat c.toNat_lt).2.2.1 x hx
theorem nm2 {L D n : Nat} (a : L < n) (b : D < n) : n ∉ [L, D] := by simp only [List.mem_cons, List.not_mem_nil, or_false]; omega
theorem picked1 {B : List UInt8} {i : Nat} {c : UInt8} (hc : B[i]? = some c) {j0 j : Int} (h0 : j0 = (i : Int)) (hj : j = (i : Int) + 1) : KBy.picked B.toArray (some j0) (some j) = #[c] := by
  have hi : i < B.length := (List.getElem?_eq_some_iff.mp hc).1
  subst hj h0
  rw [KBc.picked_eq]
  show ((B.drop (clipAt B.toArray.size (i : Int))).take (clipAt B.toArray.size ((i : Int) + 1) - clipAt B.toArray.size (i : Int))).toArray = _
  rw [show ((i : Int) + 1) = ((i + 1 : Nat) : Int) by omega, clipAt_nat, clipAt_nat, List.size_toArray, Nat.min_eq_left (by omega), Nat.min_eq_left (by omega), show i + 1 - i = 1 by omega, List.drop_eq_getElem_cons hi]
  have : B[i] = c := by
    rw [List.getElem?_eq_getElem hi] at hc
    exact Option.some.inj hc
  rw [this]
  rfl
section
variable {w : World} {A : Around} {h h₀ : Heap} {env : Env}
theorem encode_none (T : TF h) (hroom : A.depth < recursionLimit) (hh : A.handled = none) (e : Value) : Go w A (call (.ref 60) [.none, e]) h fun r h' => Kp h h' ∧ r = .none := by
  refine Go.enterT (i := 7) (c := 59) (dv := .none) (pm := .str (strOf 5) 471) (body := bd 7) (binds := [(nUri, .none), (nEnc, e)]) T (by omega) (fun h₁ T₁ F => ?_) ⟨2, by kernel_rfl⟩ ⟨2, by kernel_rfl⟩ (by kernel_rfl) (fun s e => .of_eq (by kernel_rfl)) (by decide +kernel) ?_ (by kernel_rfl) (by kernel_rfl) (by kernel_rfl)
  · refine Go.cons_eq rfl (Go.cons (Go.if_ (Go.isTCompare (Go.nameL F (v := .none) (by kernel_rfl) (Go.cNone (Go.eq is_none_none (Go.pure ⟨_, rfl, ?_⟩)))))))
    rw [if_pos rfl]
    exact Go.cons (Go.return_ (Go.nameL F (v := .none) (by kernel_rfl) ⟨F.keep, rfl⟩))
  · intro x hx
    simp only [List.mem_cons, List.not_mem_nil, or_false] at hx
    rcases hx with rfl | rfl <;> kernel_rfl
theorem encode_spec (T : TF h) (hroom : A.depth + 1 < recursionLimit) (hu : A.units < 900000) (hh : A.handled = none) (l : List Nat) (hs : ∀ c ∈ l, Str.isSurrogate c = false) (hl : l.length ≤ 1000) (hz : (u8 l).length ≤ 4000) (t : Tok) (e : Value) : Go w A (call (.ref 60) [.str (SL l) t, e]) h fun r h' => Kp h h' ∧ ∃ t, r = .str (SL (encL l)) t := by
  refine Go.enterT (i := 7) (c := 59) (dv := .none) (pm := .str (strOf 5) 471) (body := bd 7) (binds := [(nUri, .str (SL l) t), (nEnc, e)]) T (by omega) (fun h₁ T₁ F => ?_) ⟨2, by kernel_rfl⟩ ⟨2, by kernel_rfl⟩ (by kernel_rfl) (fun s e => .of_eq (by kernel_rfl)) (by decide +kernel) ?_ (by kernel_rfl) (by kernel_rfl) (by kernel_rfl)
  · have hh' : (A.deeper (callEnv (fnd 7 59 Value.none (Value.str (strOf 5) 471)) h.objs.size 60)).handled = none := hh
    have hd' : (A.deeper (callEnv (fnd 7 59 Value.none (Value.str (strOf 5) 471)) h.objs.size 60)).depth < recursionLimit := hroom
    have hu' : (A.deeper (callEnv (fnd 7 59 Value.none (Value.str (strOf 5) 471)) h.objs.size 60)).units < 900010 := by show A.units + 3 < _; omega
    generalize A.deeper (callEnv (fnd 7 59 Value.none (Value.str (strOf 5) 471)) h.objs.size 60) = A' at hh' hd' hu' ⊢
    refine Go.cons_eq rfl (Go.cons (Go.if_ (Go.isTCompare (Go.nameL F (v := .str (SL l) t) (by kernel_rfl) (Go.cNone (Go.eq is_none_str (Go.pure ⟨_, rfl, ?_⟩)))))))
    rw [if_neg Bool.false_ne_true]
    refine Go.nil (Go.cons (Go.assign ?_))
    -- percent_encodings
    refine Go.callE (Go.nameB T₁ (v := .builtin "len") (Go.cwB (Go.spE (Go.meth pa_pattern slot_findall type_findall (Go.nameG T₁ (v := .ref 53) ⟨ty53 T₁, ?_, ?_⟩)))))
    · intro a ea
      cases ea
      exact ⟨_, T₁.objs (53, _) (List.mem_of_getElem? (i := 10) rfl), rfl⟩
    refine Go.cwB (Go.spE (Go.callE (Go.nameG T₁ (v := .ref 39) (Go.cwG (i := 2) (c := 38) (dv := .ref 32) (pm := .str (strOf 1) 282) ⟨0, by kernel_rfl⟩ (Go.spE (Go.nameL F (v := .str (SL l) t) (by kernel_rfl) (Go.spE (Go.nameL F (v := e) (by kernel_rfl) (Go.spZ ⟨T₁, ?_⟩)))))))))
    refine (tostr_spec T₁ hd' hh' _ _).mono fun v h₂ y => ?_
    obtain ⟨k2, rfl⟩ := y
    have F2 := fr_kp F k2
    have T2 := T.keeps F2.keep
    refine Go.spZ (goFindall T2 (by rw [SL_len]; omega) fun vs hvs => ?_)
    have F3 := F2.push { cls := .type "list", data := .seq vs.toArray }
    refine Go.spZ (Go.lenL isNew (by rw [List.size_toArray, hvs, sizeLine_eq]; exact Nat.le_trans List.countP_le_length (by rw [List.length_range', List.size_toArray]; omega)) fun tn => ?_)
    refine ⟨_, _, F3, fun h₄ F4 s4 => Go.cons (Go.assign ?_)⟩
    have T4 := T.keeps F4.keep
    -- uri_bytes
    refine Go.callE (Go.nameG T4 (v := .ref 47) (Go.cwG (i := 3) (c := 46) (dv := .ref 40) (pm := .str (strOf 1) 282) ⟨1, by kernel_rfl⟩ (Go.spE (Go.nameL F4 (v := .str (SL l) t) (by kernel_rfl) (Go.spE (Go.nameL F4 (v := e) (by kernel_rfl) (Go.spZ ⟨T4, ?_⟩)))))))
    refine (tobytes_spec T4 hd' hh' l hs (by omega) _ _).mono fun v h₅ y => ?_
    obtain ⟨k5, tb, rfl⟩ := y
    refine ⟨_, _, fr_kp F4 k5, fun h₆ F6 s6 => Go.cons (Go.assign ?_)⟩
    -- is_percent_encoded
    refine Go.compare (Go.nameL F6 (v := .int (vs.toArray.size : Nat) tn) (by kernel_rfl) (Go.meth FB.plainAttrs_bytes slot_count type_count (Go.nameL F6 (v := .bytes (u8 l).toArray tb) (by kernel_rfl) ⟨ty_bytes, noRefB, Go.cwB (Go.spE (Go.cBytes fun _ => Go.spZ (goCount fun _ => Go.eqI ?_)))⟩)))
    have hb : (((vs.toArray.size : Nat) : Int) == (((u8 l).toArray.toList.countP (· == 37) : Nat) : Int)) = bE l := by
      unfold bE
      rw [List.size_toArray, hvs]
    rw [hb]
    refine ⟨_, _, F6, fun h₇ F7 s7 => Go.cons (Go.assign ?_)⟩
    have T7 := T.keeps F7.keep
    -- encoded_uri
    refine Go.callE (Go.nameB T7 (v := .type "bytearray") (Go.cwT (Go.spZ (goBytearray (by omega) fun h₈ k8 g8 => ?_))))
    have F8 := fr_kp F7 k8
    have LD : h.objs.size < h₇.objs.size := F7.ns.lt
    refine ⟨_, _, F8, fun h₉ F9 s9 => Go.cons (Go.for_ ?_)⟩
    have T9 := T.keeps F9.keep
    have g9 : h₉.get? h₇.objs.size = some (baO #[]) := (s9.2 _ (Nat.ne_of_gt LD)).trans g8
    refine Go.callE (Go.nameB T9 (v := .type "range") (Go.cwT (Go.spE (Go.cInt fun t0 => ?_))))
    refine Go.spE (Go.callE (Go.nameB T9 (v := .builtin "len") (Go.cwB (Go.spE (Go.nameL F9 (v := .bytes (u8 l).toArray tb) (by kernel_rfl) ?_)))))
    refine Go.spZ (Go.lenB (by rw [List.size_toArray, sizeLine_eq]; omega) fun tl => Go.spZ (goRange2 fun tv => ?_))
    refine goIterR (IsRange.new _ _ _ _ _ _ _) (small_one (by decide) (by decide) (by omega) (by rw [List.size_toArray]; omega)) ?_
    generalize hO : ({ cls := .type "range", data := .fields #[.int 0 t0, .int ((u8 l).toArray.size : Nat) tl, .int 1 tv] } : Obj) = oR
    have L10 : h.objs.size < (h₉.push oR).objs.size := (F9.push oR).ns.lt
    have D10 : h₇.objs.size < (h₉.push oR).objs.size := Heap.lt_size (Heap.get?_push_of_some _ g9)
    have W := Walks.range (prog := PW) (w := w) hh' (h₉.push oR).objs.size 0 1 (u8 l).length
    refine GoC.forN (ex := [h.objs.size, h₇.objs.size]) W (fun i h' => ∃ m, Fr h h.objs.size h' m ∧ m nUB = some (.bytes (u8 l).toArray tb) ∧ m nIP = some (.bool (bE l)) ∧ m nEU = some (.ref h₇.objs.size) ∧ h'.get? h₇.objs.size = some (baO (((u8 l).take i).flatMap (outB (bE l))).toArray)) ?_ ?_ ?_ ?_ ?_ ⟨_, (F9.push oR).push _, by kernel_rfl, by kernel_rfl, by kernel_rfl, Heap.get?_push_of_some _ (Heap.get?_push_of_some _ g9)⟩
    · intro b hb
      rw [List.mem_singleton] at hb
      subst hb
      exact nm2 L10 D10
    · rintro i g g' ⟨m, Fg, m1, m2, m3, gg⟩ k
      exact ⟨m, fr_kx Fg k (nm1 L10) (fun b hb => noneAt (ge1 hb L10)), m1, m2, m3, k _ _ (nm1 D10) gg⟩
    · rintro i g _ hi ⟨ti, rfl⟩ ⟨m, Fg, m1, m2, m3, gg⟩
      have hil : i < (u8 l).length := hi
      obtain ⟨c, hc⟩ : ∃ c, (u8 l)[i]? = some c := ⟨_, List.getElem?_eq_getElem hil⟩
      have hDL : h₇.objs.size ≠ h.objs.size := Nat.ne_of_gt LD
      refine Go.assignName Fg fun g2 F2 s2 => ?_
      have gg2 : g2.get? h₇.objs.size = some (baO (((u8 l).take i).flatMap (outB (bE l))).toArray) := (s2.2 _ hDL).trans gg
      -- byte = uri_bytes[i:i + 1]
      refine Go.cons_eq rfl (Go.cons (Go.assign (Go.sub (Go.nameL F2 ((upd_ne (by decide +kernel)).trans m1) ?_))))
      refine Go.sliceE (Go.nameL (v := .int (0 + (i : Int) * 1) ti) F2 (upd_eq _ _ _) ?_)
      refine Go.binop (Go.nameL (v := .int (0 + (i : Int) * 1) ti) F2 (upd_eq _ _ _) (Go.cInt fun _ => Go.addI fun tj => Go.pure ?_))
      have pk := picked1 hc (j0 := 0 + (i : Int) * 1) (j := 0 + (i : Int) * 1 + 1) (by omega) (by omega)
      refine ⟨"bytes", _, _, ty_bytes, FB.slot_bytes_getitem.lookup, rfl, goSliceB (Heap.IsSliceOf.new _ _ _ _) (.int _ _) (.int _ _) (by rw [pk, sizeLine_eq]; show 1 ≤ 16777216; decide) fun tB => ?_⟩
      rw [pk]
      refine Go.noTemp ⟨_, _, F2.push _, fun g3 F3 s3 => Go.cons (Go.assign ?_)⟩
      have gg3 : g3.get? h₇.objs.size = some (baO (((u8 l).take i).flatMap (outB (bE l))).toArray) := (s3.2 _ hDL).trans (Heap.get?_push_of_some _ gg2)
      have T3 := T.keeps F3.keep
      -- byte_ord = ord(byte)
      refine Go.callE (Go.nameB T3 (v := .builtin "ord") (Go.cwB (Go.spE (Go.nameL (v := .bytes #[c] tB) F3 (upd_eq _ _ _) (Go.spZ (goOrdB fun to => ⟨_, _, F3, fun g4 F4 s4 => ?_⟩))))))
      have gg4 : g4.get? h₇.objs.size = some (baO (((u8 l).take i).flatMap (outB (bE l))).toArray) := (s4.2 _ hDL).trans gg3
      have T4 := T.keeps F4.keep
      have n1 : (upd (upd (upd m nI (.int (0 + (i : Int) * 1) ti)) nByte (.bytes #[c] tB)) nBO (.int (c.toNat : Nat) to)) nUB = some (.bytes (u8 l).toArray tb) := (upd_ne (by decide +kernel)).trans ((upd_ne (by decide +kernel)).trans ((upd_ne (by decide +kernel)).trans m1))
      have n2 : (upd (upd (upd m nI (.int (0 + (i : Int) * 1) ti)) nByte (.bytes #[c] tB)) nBO (.int (c.toNat : Nat) to)) nIP = some (.bool (bE l)) := (upd_ne (by decide +kernel)).trans ((upd_ne (by decide +kernel)).trans ((upd_ne (by decide +kernel)).trans m2))
      have n3 : (upd (upd (upd m nI (.int (0 + (i : Int) * 1) ti)) nByte (.bytes #[c] tB)) nBO (.int (c.toNat : Nat) to)) nEU = some (.ref h₇.objs.size) := (upd_ne (by decide +kernel)).trans ((upd_ne (by decide +kernel)).trans ((upd_ne (by decide +kernel)).trans m3))
      have n4 : (upd (upd (upd m nI (.int (0 + (i : Int) * 1) ti)) nByte (.bytes #[c] tB)) nBO (.int (c.toNat : Nat) to)) nByte = some (.bytes #[c] tB) := (upd_ne (by decide +kernel)).trans (upd_eq _ _ _)
      have n5 : (upd (upd (upd m nI (.int (0 + (i : Int) * 1) ti)) nByte (.bytes #[c] tB)) nBO (.int (c.toNat : Nat) to)) nBO = some (.int (c.toNat : Nat) to) := upd_eq _ _ _
      have kx4 : Kx [h.objs.size, h₇.objs.size] g g4 := (sb_kx s2 (List.mem_cons_self ..)).trans ((Kp.kx (push_kp _ _)).trans ((sb_kx s3 (List.mem_cons_self ..)).trans (sb_kx s4 (List.mem_cons_self ..))))
      generalize upd (upd (upd m nI (.int (0 + (i : Int) * 1) ti)) nByte (.bytes #[c] tB)) nBO (.int (c.toNat : Nat) to) = m4 at F4 n1 n2 n3 n4 n5
      have hL4 : h.get? h₇.objs.size = none := noneAt (Nat.le_of_lt LD)
      have fit : (((u8 l).take i).flatMap (outB (bE l))).toArray.size + 3 ≤ sizeLine := by
        rw [List.size_toArray, sizeLine_eq]
        have := take_flat_len (f := outB (bE l)) (k := 3) (fun x => outB_len _ x) (Nat.le_of_lt hil)
        omega
      -- what an extension leaves
      have fin : ∀ (g5 : Heap) (ms : Array UInt8), ms.toList = outB (bE l) c → g5.get? h₇.objs.size = some (baO ((((u8 l).take i).flatMap (outB (bE l))).toArray ++ ms)) → Heap.SameBut h₇.objs.size g4 g5 →
          (Kx [h.objs.size, h₇.objs.size] g g5 ∧ ∃ m, Fr h h.objs.size g5 m ∧ m nUB = some (.bytes (u8 l).toArray tb) ∧ m nIP = some (.bool (bE l)) ∧ m nEU = some (.ref h₇.objs.size) ∧ g5.get? h₇.objs.size = some (baO (((u8 l).take (i + 1)).flatMap (outB (bE l))).toArray)) := fun g5 ms e5 gg5 s5 => by
        refine ⟨kx4.trans (sb_kx s5 (List.mem_cons_of_mem _ (List.mem_cons_self ..))), m4, F4.change s5 hDL hL4, n1, n2, n3, ?_⟩
        rw [gg5, take_flat hc, ← e5]
        congr 2
        simp
      refine Go.cons (Go.if_ (Go.mono (R := fun q g' => g' = g4 ∧ q = keepB (bE l) c) ?_ ?_))
      · refine Go.isTOr (Go.orCons (Go.mono (R := fun q g' => g' = g4 ∧ q = (bE l && (([c] : List UInt8) == [37]))) ?_ ?_))
        · refine Go.isTAnd (Go.andCons (Go.isTPlain (Go.nameL F4 n2 (Go.tBool ?_))))
          cases bE l with
          | false => rw [if_neg Bool.false_ne_true]; exact ⟨rfl, rfl⟩
          | true =>
            rw [if_pos rfl]
            refine Go.andCons (Go.isTCompare (Go.nameL F4 n4 (Go.cBytes fun _ => Go.eqB ⟨_, rfl, ?_⟩)))
            rw [Bool.true_and]
            show if (([c] : List UInt8) == [37]) = true then _ else _
            cases (([c] : List UInt8) == [37]) with
            | true => rw [if_pos rfl]; exact Go.andNil ⟨rfl, rfl⟩
            | false => rw [if_neg Bool.false_ne_true]; exact ⟨rfl, rfl⟩
        · rintro q g' ⟨rfl, rfl⟩
          cases hq : (bE l && (([c] : List UInt8) == [37])) with
          | true => rw [if_pos rfl]; exact ⟨rfl, by rw [keepB, hq]; rfl⟩
          | false =>
            rw [if_neg Bool.false_ne_true]
            have ke : keepB (bE l) c = (decide (c.toNat < 128) && inS ⟨#[c.toNat]⟩) := by rw [keepB, hq]; rfl
            rw [ke]
            refine Go.orCons (Go.isTAnd (Go.andCons (Go.isTCompare (Go.nameL F4 n5 (Go.cInt fun _ => Go.ltI ⟨_, rfl, ?_⟩)))))
            by_cases h128 : c.toNat < 128
            · rw [show decide (((c.toNat : Nat) : Int) < 128) = true from decide_eq_true (by omega), if_pos rfl, decide_eq_true h128, Bool.true_and]
              refine Go.andCons (Go.isTCompare (Go.meth FB.plainAttrs_bytes FB.slot_bytes_decode FB.type_bytes_decode (Go.nameL F4 n4 ⟨ty_bytes, noRefB, Go.cwB (Go.spZ (goDecode1 h128 fun _ => Go.nameG T4 (v := .ref 48) (goInSet T4 ⟨_, rfl, ?_⟩)))⟩)))
              cases inS ⟨#[c.toNat]⟩ with
              | true => rw [if_pos rfl]; refine Go.andNil ?_; rw [if_pos rfl]; exact ⟨rfl, rfl⟩
              | false => rw [if_neg Bool.false_ne_true, if_neg Bool.false_ne_true]; exact Go.orNil ⟨rfl, rfl⟩
            · rw [show decide (((c.toNat : Nat) : Int) < 128) = false from decide_eq_false (by omega), if_neg Bool.false_ne_true, if_neg Bool.false_ne_true, decide_eq_false h128, Bool.false_and]
              exact Go.orNil ⟨rfl, rfl⟩
      · rintro q g' ⟨rfl, rfl⟩
        cases hk : keepB (bE l) c with
        | true =>
          rw [if_pos rfl]
          refine Go.cons (goExprNone (Go.meth pa_ba slot_extend type_extend (Go.nameL F4 n3 ⟨tyBa gg4, ?_, Go.cwB (Go.spE (Go.nameL F4 n4 (Go.spZ (goExtend (by omega) gg4 (Nat.le_trans (by show _ + 1 ≤ _ + 3; omega) fit) fun g5 gg5 s5 => ⟨rfl, ?_⟩))))⟩)) (by kernel_rfl) (by kernel_rfl))
          · intro a ea
            cases ea
            exact ⟨_, gg4, rfl⟩
          · exact Go.cons (Go.continue_ (fin g5 #[c] (by rw [outB, if_pos hk]) gg5 s5))
        | false =>
          rw [if_neg Bool.false_ne_true]
          refine Go.nil (Go.cons (goExprNone (Go.meth pa_ba slot_extend type_extend (Go.nameL F4 n3 ⟨tyBa gg4, ?_, Go.cwB (Go.spE ?_)⟩)) (by kernel_rfl) (by kernel_rfl)))
          · intro a ea
            cases ea
            exact ⟨_, gg4, rfl⟩
          · have ok := fmt3_ok c.toNat c.toNat_lt
            refine Go.meth FB.plainAttrs_bytes slot_upper type_upper (Go.meth PySem.F.plainAttrs_str PySem.F.slot_str_encode PySem.F.type_str_encode (goFstr (Go.cStr fun _ => ⟨_, _, rfl, ?_, goFV (Go.nameL F4 n5 (goFmt c.toNat_lt fun _ => ⟨_, _, rfl, ?_, fun _ => ⟨ty_str, noRefS, ?_⟩⟩))⟩)))
            · decide +kernel
            · rw [SL_len]; show 2 ≤ 1000; decide
            · rw [pct, show (⟨#[37]⟩ : Str) = SL [37] from rfl, SL_app]
              refine Go.cwB (Go.spZ (goEncode0 (x := SL ([37] ++ [lw (c.toNat / 16), lw (c.toNat % 16)])) ok.1 (by rw [List.size_toArray, ok.2.2.2, sizeLine_eq]; decide) fun _ => ⟨ty_bytes, noRefB, Go.cwB (Go.spZ (goUpper (by rw [List.size_toArray, ok.2.2.2, sizeLine_eq]; decide) fun _ => Go.spZ ?_))⟩))
              refine goExtend (by omega) gg4 ?_ fun g5 gg5 s5 => ⟨rfl, Go.nil (fin g5 _ (by rw [outB, if_neg (by rw [hk]; exact Bool.false_ne_true)]) gg5 s5)⟩
              have e3 : ((u8 ([37] ++ [lw (c.toNat / 16), lw (c.toNat % 16)])).map Builtin.Bytes.toUpper).toArray.size = 3 := by rw [List.size_toArray, ok.2.1]
              exact Nat.le_trans (Nat.add_le_add_left (Nat.le_of_eq e3) _) fit
    · rintro g ⟨m, Fg, m1, m2, m3, gg⟩
      rw [List.take_length] at gg
      refine Go.cons (Go.return_ (Go.meth pa_ba slot_badecode type_badecode (Go.nameL Fg m3 ⟨tyBa gg, ?_, Go.cwB (Go.spE (Go.cStr fun _ => Go.spZ (goDecode gg ?_ ?_ fun tt => ⟨Fg.keep, tt, rfl⟩)))⟩)))
      · intro a ea
        cases ea
        exact ⟨_, gg, rfl⟩
      · intro c hc
        rw [List.mem_flatMap] at hc
        obtain ⟨a, _, hc⟩ := hc
        exact outB_ascii _ _ c hc
      · rw [List.size_toArray, sizeLine_eq]
        have := flat_len (l := u8 l) (f := outB (bE l)) (k := 3) fun x _ => outB_len _ x
        omega
    · have e1 : Builtin.Range.rangeSize 0 ((u8 l).toArray.size : Nat) 1 = ((u8 l).length : Int) := by
        rw [rangeSize_one, List.size_toArray]
        split <;> omega
      rw [e1]
      exact Heap.get?_push_size _ rfl
  · intro x hx
    simp only [List.mem_cons, List.not_mem_nil, or_false] at hx
    rcases hx with rfl | rfl <;> kernel_rfl
end
end Mine
end
section
open PySem PySem.W PyProof.Rows PySem.Calls
set_option Elab.async false
set_option maxRecDepth 100000
set_option linter.unusedVariables false
set_option maxHeartbeats 0
namespace Mine
section
variable {w : World} {A : Around} {h h₀ : Heap} {env : Env}
theorem goAppend {D : Addr} {ys : List Value} {y : Value} (hl : h.IsList D ys.toArray) (hz : ys.length + 1 ≤ 1000000) {R : Value → Heap → Prop} (r : ∀ h', h'.IsList D (ys ++ [y]).toArray → Heap.SameBut D h h' → R .none h') : Go w A (call (.builtin "list.append") [.ref D, y]) h R := Go.lib fun g d k os =>
  wpAny_list_append hl (fun h' a b => ⟨rfl, rfl, rfl, r h' (by simpa using a) b⟩) (by rw [List.size_toArray, sizeLine_eq]; omega)
/-- what the loop of a comprehension keeps: the base facts B, the names' dict, the list so far -/
def CompJ (cenv : Env) (D : Addr) (B : Heap → Prop) (G : Nat → Value → Prop) (i : Nat) (h : Heap) : Prop :=
  B h ∧ (∃ m, h.Ns cenv.locals m) ∧ ∃ ys : List Value, h.IsList D ys.toArray ∧ ys.length = i ∧ ∀ j y, ys[j]? = some y → G j y
theorem isList_at {h h' : Heap} {a : Addr} {items : Array Value} (x : h.IsList a items) (k : ∀ o, h.get? a = some o → h'.get? a = some o) : h'.IsList a items := let ⟨o, ho, r⟩ := x; ⟨o, k _ ho, r⟩
theorem goCompLoop {elt iter : Expr} {x : Str} {px : Pos} {scope : Scope} {pos : Pos} {I D : Addr} {fp wr : List Addr} {n : Nat} {P : Nat → Value → Prop} {St : Nat → Heap → Prop} {cenv : Env} {B : Heap → Prop} {G : Nat → Value → Prop} {S : Flow → Heap → Prop}
    (W : Walks PW w A I fp wr n P St) (hn : n ≤ 100000) (hDL : D ≠ cenv.locals) (hDf : D ∉ fp) (hLf : cenv.locals ∉ fp) (hB : ∀ h h', B h → Kx (cenv.locals :: D :: wr) h h' → B h') (hx : cenv.kindOf x = some .local)
    (hp : (cenv.scope.kind == .class || (cenv.scope.kind == .module && cenv.locals != cenv.globals)) = false)
    (hel : ∀ i v g m, i < n → P i v → B g → g.Ns cenv.locals m → m x = some v → Go w A (eval elt cenv) g fun y g' => Kp g g' ∧ G i y)
    (done : ∀ h, CompJ cenv D B G n h → S .next h) : ∀ (c i : Nat) (h : Heap), c = n - i → i ≤ n → St i h → CompJ cenv D B G i h → GoC w A (.compLoop (.ListComp elt [⟨.Name x px, iter, [], 0⟩] scope pos) 0 (.ref I) (.ref D) cenv) h S := by
  have hDw : D ∉ wr := fun q => hDf (W.sub _ q)
  have hLw : cenv.locals ∉ wr := fun q => hLf (W.sub _ q)
  have jw : ∀ i h h', CompJ cenv D B G i h → Kx wr h h' → CompJ cenv D B G i h' := fun i h h' ⟨b, ⟨m, hm⟩, ys, hl, hy, hg⟩ k =>
    ⟨hB _ _ b (fun a o q e => k a o (fun z => q (List.mem_cons_of_mem _ (List.mem_cons_of_mem _ z))) e), ⟨m, hm.at fun o e => k _ _ hLw e⟩, ys, isList_at hl fun o e => k _ _ hDw e, hy, hg⟩
  intro c
  induction c with
  | zero =>
    intro i h hc hi hst hj
    refine GoC.tree rfl ?_
    show Go w A ((PySem.compTurn (.ListComp elt [⟨.Name x px, iter, [], 0⟩] scope pos) 0 (.ref I) (.ref D) cenv).onRaise (fun x => do noteFrame x cenv; theTreesLotGoes x)) h _
    refine Go.onRaise ?_
    unfold compTurn
    refine Go.bind (Go.standAt ?_)
    have : i = n := by omega
    subst this
    refine Go.bind (Go.lib fun g d k os => W.done _ _ _ hst fun h1 k1 hk1 => ⟨rfl, rfl, rfl, ?_⟩)
    exact Go.pure (done _ (jw _ _ _ hj hk1))
  | succ c ih =>
    intro i h hc hi hst hj
    refine GoC.tree rfl ?_
    show Go w A ((PySem.compTurn (.ListComp elt [⟨.Name x px, iter, [], 0⟩] scope pos) 0 (.ref I) (.ref D) cenv).onRaise (fun x => do noteFrame x cenv; theTreesLotGoes x)) h _
    refine Go.onRaise ?_
    unfold compTurn
    refine Go.bind (Go.standAt ?_)
    refine Go.bind (Go.lib fun g d k os => W.item i _ _ _ (by omega) hst fun v h1 k1 hv hst1 hk1 => ⟨rfl, rfl, rfl, ?_⟩)
    obtain ⟨b1, ⟨m, hm⟩, ys, hl, hy, hg⟩ := jw _ _ _ hj hk1
    refine Go.bind (Go.pure (Go.bind ?_))
    refine Go.bind (Go.standAt (Go.bind (Go.holding (Go.point (Go.bind (Go.lib fun g d k os => wpAny_storeName_local hx hm (fun h2 hn2 hs2 => ⟨rfl, rfl, rfl, ?_⟩) hp))))))
    refine Go.point ?_
    refine Go.bind (Go.pure ?_)
    rw [if_pos rfl]
    have b2 : B h2 := hB _ _ b1 (sb_kx hs2 (List.mem_cons_self ..))
    have l2 : h2.IsList D ys.toArray := isList_at hl fun o e => (hs2.2 _ hDL).trans e
    refine Go.bind (Go.bind ((hel i v h2 _ (by omega) hv b2 hn2 (if_pos rfl)).mono fun y h3 z => ?_))
    obtain ⟨k3, gy⟩ := z
    have l3 : h3.IsList D ys.toArray := isList_at l2 fun o e => k3 _ _ e
    refine Go.bind (goAppend l3 (by omega) fun h4 l4 s4 => Go.pure ?_)
    have kall : Kx [cenv.locals, D] h1 h4 := (sb_kx hs2 (List.mem_cons_self ..)).trans ((Kp.kx k3).trans (sb_kx s4 (List.mem_cons_of_mem _ (List.mem_cons_self ..))))
    refine Go.pure ⟨rfl, ih (i + 1) h4 (by omega) (by omega) (W.frame _ _ _ hst1 fun b hb o e => kall b o (fun q => ?_) e) ⟨hB _ _ b1 (fun a o q e => kall a o (fun z => q ?_) e), ⟨_, ((hn2.keeps k3).sameBut s4 hDL.symm)⟩, ys ++ [y], l4, by simp [hy], fun j y' e => ?_⟩⟩
    · rcases List.mem_cons.mp q with e | e
      · exact hLf (e ▸ hb)
      · rw [List.mem_singleton] at e
        exact hDf (e ▸ hb)
    · rcases List.mem_cons.mp z with e | e
      · rw [e]; exact List.mem_cons_self ..
      · rw [List.mem_singleton] at e
        rw [e]; exact List.mem_cons_of_mem _ (List.mem_cons_self ..)
    · rw [List.getElem?_append] at e
      split at e
      · exact hg j y' e
      · rename_i hj2
        have : j = i := by
          by_cases q : j - ys.length = 0
          · omega
          · rw [List.getElem?_eq_none (by simp; omega)] at e
            cases e
        subst this
        rw [show j - ys.length = 0 by omega] at e
        cases e
        exact gy
end
end Mine
end
section
open PySem PySem.W PyProof.Rows PySem.Calls
set_option Elab.async false
set_option maxRecDepth 100000
set_option linter.unusedVariables false
set_option maxHeartbeats 0
namespace Mine
def cEnv (env : Env) (scope : Scope) (Lc : Addr) (cls : List (Str × Addr)) : Env :=
  let c : Env := newEnv scope Lc env.globals cls env.qual none .none (some env) builtinsNs
  { c with scope := { scope with names := scope.names.map fun (n, k) => if k == .free && env.scope.kind == .function && env.kindOf n == some .cell then (n, .cell) else (n, k) } }
section
variable {w : World} {A : Around} {h h₀ : Heap} {env : Env}
theorem goCompStart {e : Expr} {I D : Addr} {fp wr : List Addr} {n i : Nat} {P : Nat → Value → Prop} {St : Nat → Heap → Prop} {cenv : Env} {S : Flow → Heap → Prop} (W : Walks PW w A I fp wr n P St) (hst : St i h)
    (hs : ((clausesOf e)[(0 : Nat)]?).elim false (·.is_async != 0) = false) (hf : (Code.compStart e 0 (.ref I) (.ref D) cenv).isFrame = false) (hw : A.under (.compStart e 0 (.ref I) (.ref D) cenv) = A) (x : GoC w A (.compLoop e 0 (.ref I) (.ref D) cenv) h S) : GoC w A (.compStart e 0 (.ref I) (.ref D) cenv) h S := by
  refine GoC.tree rfl ?_
  rw [hw]
  show Go w A (if (Code.compStart e 0 (.ref I) (.ref D) cenv).isFrame then (compStart e 0 (.ref I) (.ref D) cenv).onRaise (leaving cenv) else (compStart e 0 (.ref I) (.ref D) cenv).onRaise (fun x => do noteFrame x cenv; standAt theWindowsPlace)) h _
  rw [hf, if_neg Bool.false_ne_true]
  refine Go.onRaise ?_
  unfold compStart
  rw [hs, if_neg Bool.false_ne_true]
  refine Go.bind (Go.ask ?_)
  split
  · exact Go.pure ⟨rfl, x⟩
  · refine Go.bind (Go.rule ?_)
    have last : Go w A (do PySem.again (.compLoop e 0 (← pyIter (.ref I)) (.ref D) cenv)) h (FinR w A S) := Go.bind (Go.lib fun g d k os => W.self i _ _ _ hst ⟨rfl, rfl, rfl, Go.pure ⟨rfl, x⟩⟩)
    split
    · exact Go.bind (Go.standAt last)
    · exact last
/-- what the iterable of a comprehension brings: a walk, and the element's evaluation at each turn -/
structure CompIn (w : World) (A : Around) (env : Env) (scope : Scope) (cls : List (Str × Addr)) (elt : Expr) (x : Str) (h2 : Heap) (I : Addr) (n : Nat) (G : Nat → Value → Prop) (wr : List Addr) : Prop where
  go : ∃ (fp : List Addr) (P : Nat → Value → Prop) (St : Nat → Heap → Prop), Walks PW w A I fp wr n P St ∧ St 0 h2 ∧ (∀ b ∈ fp, b < h2.objs.size) ∧
    ∀ i v g m, i < n → P i v → Kx wr h2 g → g.Ns (h2.objs.size + 1) m → m x = some v → Go w A (eval elt (cEnv env scope (h2.objs.size + 1) cls)) g fun y g' => Kp g g' ∧ G i y
theorem goCompRun {elt iter : Expr} {x : Str} {px pos : Pos} {scope : Scope} {cls : List (Str × Addr)} {I : Addr} {n : Nat} {G : Nat → Value → Prop} {wr : List Addr} {D Lc : Addr} {h3 : Heap} {S : Flow → Heap → Prop}
    (C : CompIn w A env scope cls elt x h I n G wr) (hn : n ≤ 100000) (hD : D = h.objs.size) (hLc : Lc = h.objs.size + 1) (k3 : Kp h h3) (hl : h3.IsList D (List.toArray [])) (hns : ∃ m, h3.Ns Lc m)
    (hx : (cEnv env scope Lc cls).kindOf x = some .local) (hp : ((cEnv env scope Lc cls).scope.kind == .class || ((cEnv env scope Lc cls).scope.kind == .module && (cEnv env scope Lc cls).locals != (cEnv env scope Lc cls).globals)) = false)
    (done : ∀ (h' : Heap) (ys : List Value), Kx wr h h' → h'.IsList D ys.toArray → ys.length = n → (∀ j y, ys[j]? = some y → G j y) → (∃ m, h'.Ns Lc m) → S .next h') : GoC w A (.compStart (.ListComp elt [⟨.Name x px, iter, [], 0⟩] scope pos) 0 (.ref I) (.ref D) (cEnv env scope Lc cls)) h3 S := by
  obtain ⟨fp, P, St, W, s0, hfp, hel⟩ := C.go
  subst hD hLc
  have a1 : ∀ b ∈ fp, b ≠ h.objs.size := fun b hb e => absurd (hfp b hb) (by rw [e]; exact Nat.lt_irrefl _)
  have a2 : ∀ b ∈ fp, b ≠ h.objs.size + 1 := fun b hb e => absurd (hfp b hb) (by rw [e]; exact Nat.not_lt.mpr (Nat.le_succ _))
  refine goCompStart W (W.frame _ _ _ s0 fun b _ o e => k3 b o e) rfl rfl (Around.under_of_weight rfl rfl) ?_
  refine goCompLoop (B := fun g => Kx wr h g) (G := G) W hn (Nat.ne_of_lt (Nat.lt_succ_self _)) (fun q => a1 _ q rfl) (fun q => a2 _ q rfl) ?_ hx hp hel ?_ n 0 h3 (by omega) (Nat.zero_le _) (W.frame _ _ _ s0 fun b _ o e => k3 b o e) ⟨Kp.kx k3, hns, [], hl, rfl, fun j y e => by simp at e⟩
  · intro g g' k kk b o hb e
    refine kk b o (fun q => ?_) (k b o hb e)
    have lt := Heap.lt_size e
    rcases List.mem_cons.mp q with z | z
    · exact absurd lt (by rw [z]; exact Nat.not_lt.mpr (Nat.le_succ _))
    · rcases List.mem_cons.mp z with z | z
      · exact absurd lt (by rw [z]; exact Nat.lt_irrefl _)
      · exact hb z
  · rintro h' ⟨k, m, ys, hl', hy, hg⟩
    exact done h' ys k hl' hy hg m
theorem nmLt {b n : Nat} (h : b < n) : b ∉ [n + 1] := by simp only [List.mem_cons, List.not_mem_nil, or_false]; omega
theorem nmD {n : Nat} : n ∉ [n + 1] := by simp only [List.mem_cons, List.not_mem_nil, or_false]; omega
theorem nm1' {L n : Nat} (h : L < n) : n + 1 ∉ [L] := by simp only [List.mem_cons, List.not_mem_nil, or_false]; omega
theorem goLetGo {cenv : Env} {f : List (Str × NameKind) → List Value} {x : Str} {R : Unit → Heap → Prop} (hns : ∃ m, h.Ns cenv.locals m) (hx : cenv.kindOf x = some .local) (hp : (cenv.scope.kind == .class || (cenv.scope.kind == .module && cenv.locals != cenv.globals)) = false)
    (r : ∀ h', Kx [cenv.locals] h h' → R () h') : Go w A (comprehension.letGo cenv f [(x, .local)]) h R := by
  obtain ⟨m, hm⟩ := hns
  unfold comprehension.letGo
  have fin : ∀ h', Kx [cenv.locals] h h' → Go w A (comprehension.letGo cenv f []) h' R := fun h' k => by
    unfold comprehension.letGo
    exact Go.pure (r h' k)
  refine Go.bind (Go.holding ?_)
  rw [if_pos (by rfl)]
  refine Go.bind (Go.lib fun g d k os => wpAny_nsGet hm ⟨rfl, rfl, rfl, ?_⟩)
  cases hv : m x with
  | none =>
    rw [if_neg (by simp)]
    exact Go.pure (fin h Kx.rfl)
  | some v =>
    rw [if_pos (by rfl)]
    exact Go.lib fun g d k os => wpAny_unbindName_local hx hm hv hp fun h' u hn hs => ⟨rfl, rfl, rfl, fin h' (sb_kx hs (List.mem_cons_self ..))⟩
theorem goComp {elt iter : Expr} {x : Str} {px pos p : Pos} {scope : Scope} {cls : List (Str × Addr)} {use : Option (Value → Sem Unit)} {R : Value → Heap → Prop}
    (hcl : closureFor scope env = pure cls) (hcell : ∀ x ∈ scope.names, x.2 ≠ .cell) (hk : scope.kind = .function) (hvars : (scope.names.filter fun (n, k) => (k == .local || k == .cell) && n != (".0" : Str)) = [(x, .local)])
    (hset : ∀ v, foldedSetIterable iter env v = pure v)
    (hx : ∀ Lc, (cEnv env scope Lc cls).kindOf x = some .local) (hp : ∀ Lc, ((cEnv env scope Lc cls).scope.kind == .class || ((cEnv env scope Lc cls).scope.kind == .module && (cEnv env scope Lc cls).locals != (cEnv env scope Lc cls).globals)) = false)
    (xi : Go w A (eval iter env) h fun v h1 => Go w A (pyIter v) h1 fun it h2 => ∃ (I : Addr) (n : Nat) (G : Nat → Value → Prop) (wr : List Addr), it = .ref I ∧ n ≤ 100000 ∧ CompIn w A env scope cls elt x h2 I n G wr ∧
      ∀ (h' : Heap) (ys : List Value), Kx wr h2 h' → h'.IsList h2.objs.size ys.toArray → ys.length = n → (∀ j y, ys[j]? = some y → G j y) → match use with
        | none => R (.ref h2.objs.size) h'
        | some u => Go w A (u (.ref h2.objs.size)) h' fun _ h'' => Kx [env.locals] h' h'' ∧ env.locals < h2.objs.size ∧ ∀ h3, Kx [h2.objs.size + 1] h'' h3 → R .none h3) :
    Go w A (comprehension (.ListComp elt [⟨.Name x px, iter, [], 0⟩] scope pos) scope env p (newList []) false (eval iter env) use) h R := by
  unfold comprehension
  refine Go.bind (xi.mono fun v h1 y => Go.bind (Go.standAt ?_))
  show Go w A (foldedSetIterable iter env v >>= _) h1 R
  refine Go.bind (Go.eq (hset v) (Go.pure ?_))
  refine Go.bind (Go.holding (y.mono fun it h2 z => ?_))
  obtain ⟨I, n, G, wr, rfl, hn, C, fin⟩ := z
  have tail : Go w A (do
      let acc ← newList []
      let cs ← closureFor scope env
      let c0 ← newFunctionEnv scope env.globals cs [] env.qual none .none (some env)
      let cenv : Env := { c0 with scope := { scope with names := scope.names.map fun (n, k) => if k == .free && env.scope.kind == .function && env.kindOf n == some .cell then (n, .cell) else (n, k) } }
      let vars := scope.names.filter fun (n, k) => (k == .local || k == .cell) && n != (".0" : Str)
      let cellOf? (n : Str) : List Value := ((cenv.cells.lookup n).map Value.ref).toList
      let cellsOf (vs : List (Str × NameKind)) : List Value := vs.flatMap fun (n, k) => if k == .cell then cellOf? n else []
      holding [.ref cenv.locals] do
        match ← (holding (acc :: cellsOf vars) (run (.compStart (.ListComp elt [⟨.Name x px, iter, [], 0⟩] scope pos) 0 (.ref I) acc cenv))).attempt, use with
        | .ok _, none => holding [acc] (comprehension.letGo cenv cellsOf vars.reverse); pure acc
        | .ok _, some u =>
          rule "comprehension.stores-exchanged"
          holding (cellsOf vars) (u acc)
          comprehension.letGo cenv cellsOf (vars.reverse.drop 1 ++ vars.reverse.take 1)
          pure .none
        | .error x, _ => holding [x] (comprehension.letGo cenv cellsOf vars.reverse); passOn "comprehension.variables-let-go" x cenv : Sem Value) h2 R := by
    refine Go.bind (Go.newList (by simp) (Go.bind (Go.eq hcl (Go.pure ?_))))
    refine Go.bind (Go.lib fun g d k os => wpAny_newFunctionEnv hcell (fun x hx => nomatch hx) (fun h3 hns hsb => ⟨rfl, rfl, rfl, ?_⟩) hk)
    have ez : (h2.push { cls := .type "list", data := .seq ([] : List Value).toArray }).objs.size = h2.objs.size + 1 := Heap.size_push ..
    have kp3 : Kp h2 h3 := fun b o e => (hsb.2 b (Nat.ne_of_lt (by rw [ez]; exact Nat.lt_succ_of_lt (Heap.lt_size e)))).trans (Heap.get?_push_of_some _ (Heap.get?_push_of_some _ e))
    have hl3 : h3.IsList h2.objs.size ([] : List Value).toArray := by
      have l1 : (h2.push { cls := .type "list", data := .seq ([] : List Value).toArray }).IsList h2.objs.size ([] : List Value).toArray := isNew
      exact isList_at (l1.push _) fun o e => (hsb.2 _ (by rw [ez]; exact Nat.ne_of_lt (Nat.lt_succ_self _))).trans e
    show Go w A (holding [.ref (cEnv env scope (h2.push { cls := .type "list", data := .seq ([] : List Value).toArray }).objs.size cls).locals] _) h3 R
    rw [ez] at hns
    rw [ez]
    dsimp only
    refine Go.holding ?_
    rw [hvars]
    have run : GoC w A (.compStart (.ListComp elt [⟨.Name x px, iter, [], 0⟩] scope pos) 0 (.ref I) (.ref h2.objs.size) (cEnv env scope (h2.objs.size + 1) cls)) h3 (fun fl h' => fl = .next ∧ ∃ ys : List Value, Kx wr h2 h' ∧ h'.IsList h2.objs.size ys.toArray ∧ ys.length = n ∧ (∀ j y, ys[j]? = some y → G j y) ∧ ∃ m, h'.Ns (h2.objs.size + 1) m) :=
      goCompRun C hn rfl rfl kp3 hl3 ⟨_, hns⟩ (hx _) (hp _) fun h' ys a b c d e => ⟨rfl, ys, a, b, c, d, e⟩
    refine Go.bind (Go.attempt (Go.holding ((Go.run run).mono fun fl h4 q => ?_)))
    obtain ⟨rfl, ys, k4, l4, n4, g4, m4⟩ := q
    have last := fin h4 ys k4 l4 n4 g4
    cases use with
    | none =>
      dsimp only at last ⊢
      refine Go.bind (Go.holding (goLetGo m4 (hx _) (hp _) fun h5 k5 => Go.pure ?_))
      have kk : Kx wr h2 h5 := fun b o hb e => k5 b o (nmLt (Heap.lt_size e)) (k4 b o hb e)
      exact fin h5 ys kk (isList_at l4 fun o e => k5 _ _ nmD e) n4 g4
    | some u =>
      dsimp only at last ⊢
      refine Go.bind (Go.rule (Go.bind (Go.holding (last.mono fun _ h5 q => ?_))))
      obtain ⟨k5, lt, r5⟩ := q
      obtain ⟨m, hm⟩ := m4
      refine Go.bind (goLetGo ⟨m, hm.at fun o e => k5 _ _ (nm1' lt) e⟩ (hx _) (hp _) fun h6 k6 => Go.pure (r5 h6 k6))
  split
  · exact Go.bind (Go.standAt tail)
  · exact tail
end
end Mine
end
section
open PySem PySem.W PyProof.Rows PySem.Calls
set_option Elab.async false
set_option maxRecDepth 100000
set_option linter.unusedVariables false
set_option maxHeartbeats 0
namespace Mine
section
variable {w : World} {A : Around} {h h₀ : Heap} {env : Env} {R : Value → Heap → Prop} {S : Flow → Heap → Prop}
theorem goNameC {x : Str} {pos : Pos} {c : Addr} {v : Value} (hv : h.IsCell c (some v)) (r : R v h) (hc : env.cells.lookup x = some c) (hk : env.scope.kind = .function) (hl : env.kindOf x = some .cell) (hd : (x == ("__debug__" : Str)) = false) :
    Go w A (eval (.Name x pos) env) h R := Go.lib fun _ _ _ _ => wpAny_Name (wpAny_loadName_cell hk hl hc hv ⟨rfl, rfl, rfl, r⟩) hd
theorem goAssignC {x : Str} {p1 p2 : Pos} {e : Expr} {c : Addr} (y : Go w A (eval e env) h fun v h1 => ∃ v₀, h1.IsCell c v₀ ∧ ∀ h', h'.IsCell c (some v) → Heap.SameBut c h1 h' → S .next h') (hc : env.cells.lookup x = some c) (hk : env.scope.kind = .function) (hl : env.kindOf x = some .cell)
    (hs : swapsWith e (some (.Name x p1)) p2.line env = Pure.pure false) : Go w A (exec (.Assign [.Name x p1] e p2) env) h S := by
  rw [exec_Assign_Name _ _ _ _ _ hs]
  refine Go.bind (Go.standAt (Go.bind (y.mono fun v h1 z => Go.bind (Go.standAt ?_))))
  obtain ⟨v₀, hv, r⟩ := z
  refine Go.bind (Go.bind (Go.holding (Go.point (Go.bind (Go.lib fun g d k os => wpAny_storeName_cell hk hl hc hv fun h' a b => ⟨rfl, rfl, rfl, ?_⟩)))))
  exact Go.point (Go.pure (r h' a b))
theorem goAssignU {elt iter : Expr} {x tgt : Str} {px pos p1 p2 : Pos} {scope : Scope}
    (y : Go w A (comprehension (.ListComp elt [⟨.Name x px, iter, [], 0⟩] scope pos) scope env iter.pos (newList []) false (eval iter env) (some (PySem.assign (.Name tgt p1) env))) h fun _ h1 => S .next h1)
    (hs : swapsWith (.ListComp elt [⟨.Name x px, iter, [], 0⟩] scope pos) (some (.Name tgt p1)) p2.line env = Pure.pure true) : Go w A (exec (.Assign [.Name tgt p1] (.ListComp elt [⟨.Name x px, iter, [], 0⟩] scope pos) p2) env) h S := by
  rw [exec_Assign_Name_used _ _ _ _ hs]
  refine Go.bind (Go.standAt (Go.bind ?_))
  show Go w A (do let _ ← comprehension (.ListComp elt [⟨.Name x px, iter, [], 0⟩] scope pos) scope env iter.pos (newList []) false (eval iter env) (some (PySem.assign (.Name tgt p1) env)) : Sem Unit) h _
  exact Go.bind (y.mono fun _ h1 z => Go.pure (Go.pure z))
theorem goListComp {elt iter : Expr} {x : Str} {px pos : Pos} {scope : Scope} (y : Go w A (comprehension (.ListComp elt [⟨.Name x px, iter, [], 0⟩] scope pos) scope env iter.pos (newList []) false (eval iter env) none) h R) : Go w A (eval (.ListComp elt [⟨.Name x px, iter, [], 0⟩] scope pos) env) h R := y
end
end Mine
end
section
open PySem PySem.W PyProof.Rows PySem.Calls
set_option Elab.async false
set_option maxRecDepth 100000
set_option linter.unusedVariables false
set_option maxHeartbeats 0
namespace Mine
section
variable {w : World} {A : Around} {h h₀ : Heap} {env : Env} {R : Value → Heap → Prop} {S : Flow → Heap → Prop}
theorem goEnterC {a : Addr} {o : Obj} {fd : FuncData} {body : List Stmt} {args : List Value} {binds : List (Str × Value)} (hroom : A.depth < recursionLimit) (ho : h.get? a = some o) (hdata : o.data = .func fd) (hlim : h.NoLimit) (hcd : h.CodeRec fd.code fd.qualname)
    (hbody : fd.body = .stmts body) (hb : bindArgs fd ⟨args, []⟩ = Pure.pure binds) (hclo : fd.closure = []) (hkind : ∀ x ∈ binds, fd.scope.names.lookup x.1 = some .local ∨ (fd.scope.names.lookup x.1 = some .cell ∧ ((cellsFrom (h.objs.size + 1) fd.scope.names []).lookup x.1).isSome = true))
    (x : ∀ h₁, Fr h h.objs.size h₁ (bindL (callEnvC fd h.objs.size a).kindOf binds fun _ => none) → (∀ n c, (callEnvC fd h.objs.size a).cells.lookup n = some c → h₁.IsCell c (bindC (callEnvC fd h.objs.size a).kindOf binds (fun _ => none) n)) →
      Go w (A.deeper (callEnvC fd h.objs.size a)) (execs body (callEnvC fd h.objs.size a)) h₁ (fun f h' => R (match f with | .ret v => v | _ => .none) h'))
    (hco : fd.scope.isCoroutine = false) (hgen : fd.scope.isGenerator = false) (hk : fd.scope.kind = .function) : Go w A (PySem.call (.ref a) args []) h R := by
  refine Go.call (GoC.tree rfl ?_)
  show Go w A.in1 (callAny (.ref a) ⟨args, []⟩) h _
  simp only [callAny]
  refine Go.bind (Go.load ho ?_)
  obtain ⟨c, oc, vs, tq, hc, hoc, hdc, hq⟩ := hcd
  simp only [hdata, callFunction, hco, hgen, hbody, hc]
  refine Go.bind (m := field (.ref c) 1) (Go.lib fun g d k os => wpAny_field hoc hdc hq ⟨rfl, rfl, rfl, ?_⟩)
  refine Go.bind (Go.pure ?_)
  rw [hb, hclo]
  refine Go.bind (Go.pure ?_)
  refine Go.bind (Go.lib fun g d k os => wpAny_newFunctionEnv_cells hk hkind fun env he s' y => ?_)
  subst he
  obtain ⟨⟨⟨h1, tk, rfl⟩, hns, keep, above⟩, hcells, _, _⟩ := y
  refine ⟨rfl, rfl, rfl, ?_⟩
  rw [← hc]
  refine Go.bind (Go.lib fun g d k os => wpAny_enterFrame (hlim.keeps keep) hroom ⟨rfl, rfl, rfl, ?_⟩)
  refine Go.pure ⟨rfl, GoC.tree rfl ?_⟩
  have F : Fr h h.objs.size h1 (bindL (callEnvC fd h.objs.size a).kindOf binds fun _ => none) := ⟨by have := hns; exact this, keep, Nat.le_refl _⟩
  show Go w (A.deeper (callEnvC fd h.objs.size a)) (do PySem.point; match ← (execs body (callEnvC fd h.objs.size a)).onRaise (leaving (callEnvC fd h.objs.size a)) with | .ret v => PySem.ret v | _ => PySem.ret .none) h1 _
  refine Go.bind (Go.point (Go.bind (Go.onRaise ((x h1 F (by have := hcells; exact this)).mono fun f h2 z => ?_))))
  cases f <;> exact Go.pure z
end
end Mine
end
section
open PySem PySem.W PyProof.Rows PySem.Calls
set_option Elab.async false
set_option maxRecDepth 100000
set_option linter.unusedVariables false
set_option maxHeartbeats 0
namespace Mine
def lawScope : Scope := match PW.main.body[(17 : Nat)]? with | some (.FunctionDef _ _ _ _ _ _ scope _ _ _) => scope | _ => PW.main.scope
abbrev lawEnv (L a : Addr) (q : Str) (cd : Value) : Env := newEnv lawScope L mainGlobals (cellsFrom (L + 1) lawScope.names []) q (some a) cd none builtinsNs
abbrev vScript : Str := Str.ofString "script"
abbrev vDraws : Str := Str.ofString "draws"
abbrev vTold : Str := Str.ofString "told"
theorem law_cells (L : Addr) : cellsFrom (L + 1) lawScope.names [] = [(vTold, L + 2), (vDraws, L + 1)] := by kernel_rfl
/-- what the law's frame holds: its locals, its two cells -/
structure LS (h0 : Heap) (vd vt : Option Value) (m : Str → Option Value) (h : Heap) : Prop where
  fr : Fr h0 h0.objs.size h m
  cd : h.IsCell (h0.objs.size + 1) vd
  ct : h.IsCell (h0.objs.size + 2) vt
  tf : TF h0
section
variable {h0 h h' : Heap} {vd vt : Option Value} {m m' : Str → Option Value}
theorem LS.T (s : LS h0 vd vt m h) : TF h := s.tf.keeps s.fr.keep
theorem LS.kp (s : LS h0 vd vt m h) (k : Kp h h') : LS h0 vd vt m h' := ⟨fr_kp s.fr k, s.cd.keeps k, s.ct.keeps k, s.tf⟩
theorem LS.push (s : LS h0 vd vt m h) (o : Obj) : LS h0 vd vt m (h.push o) := s.kp (push_kp h o)
theorem n21 {n : Nat} : n + 2 ≠ n + 1 := by omega
theorem n20 {n : Nat} : n + 2 ≠ n := by omega
theorem n10 {n : Nat} : n + 1 ≠ n := by omega
theorem n12 {n : Nat} : n + 1 ≠ n + 2 := by omega
theorem n01 {n : Nat} : n ∉ [n + 1] := by simp
theorem n02 {n : Nat} : n ∉ [n + 2] := by simp
theorem LS.set (s : LS h0 vd vt m h) (F : Fr h0 h0.objs.size h' m') (b : Heap.SameBut h0.objs.size h h') : LS h0 vd vt m' h' := ⟨F, s.cd.sameBut b n10, s.ct.sameBut b n20, s.tf⟩
theorem LS.setD {v : Value} (s : LS h0 vd vt m h) (c : h'.IsCell (h0.objs.size + 1) (some v)) (b : Heap.SameBut (h0.objs.size + 1) h h') : LS h0 (some v) vt m h' :=
  ⟨fr_kx s.fr (sb_kx b (List.mem_singleton.mpr rfl)) n01 (fun a ha => noneAt (by rw [List.mem_singleton.mp ha]; exact Nat.le_succ _)), c, s.ct.sameBut b n21, s.tf⟩
theorem LS.setT {v : Value} (s : LS h0 vd vt m h) (c : h'.IsCell (h0.objs.size + 2) (some v)) (b : Heap.SameBut (h0.objs.size + 2) h h') : LS h0 vd (some v) m h' :=
  ⟨fr_kx s.fr (sb_kx b (List.mem_singleton.mpr rfl)) n02 (fun a ha => noneAt (by rw [List.mem_singleton.mp ha]; exact Nat.le_add_right _ _)), s.cd.sameBut b n12, c, s.tf⟩
theorem LS.lt (s : LS h0 vd vt m h) : h0.objs.size + 2 < h.objs.size := s.ct.lt
theorem isL_sb {D L : Addr} {xs : Array Value} (x : h.IsList D xs) (b : Heap.SameBut L h h') (n : D ≠ L) : h'.IsList D xs := isList_at x fun o e => (b.2 _ n).trans e
theorem isL_kp {D : Addr} {xs : Array Value} (x : h.IsList D xs) (k : Kp h h') : h'.IsList D xs := isList_at x fun o e => k _ _ e
theorem ints_len {vs : List Value} {ns : List Int} (i : IntsAre vs ns) : vs.length = ns.length := by
  induction i with
  | nil => rfl
  | cons n t _ ih => simp [ih]
theorem ints_app {vs ws : List Value} {ns ms : List Int} (i : IntsAre vs ns) (j : IntsAre ws ms) : IntsAre (vs ++ ws) (ns ++ ms) := by
  induction i with
  | nil => exact j
  | cons n t _ ih => exact .cons n t ih
theorem ints_at {vs : List Value} {ns : List Int} (i : IntsAre vs ns) : ∀ (k : Nat) (v : Value), vs[k]? = some v → ∃ n t, ns[k]? = some n ∧ v = .int n t := by
  induction i with
  | nil => intro k v e; simp at e
  | cons n t _ ih =>
    intro k v e
    cases k with
    | zero => exact ⟨n, t, rfl, by simpa using e.symm⟩
    | succ k => exact ih k v (by simpa using e)
def drawsOf (ns : List Int) : List Int := ns.take 12 ++ usual.drop (ns.take 12).length
theorem draws_len (ns : List Int) : (drawsOf ns).length = 12 := by
  have : usual.length = 12 := rfl
  simp only [drawsOf, List.length_append, List.length_drop, List.length_take, this]
  omega
end
section
variable {w : World} {A : Around} {h0 h : Heap} {vd vt : Option Value} {m : Str → Option Value} {a : Addr} {q : Str} {cd : Value} {S : Flow → Heap → Prop}
/-- script[:12] -/
theorem law_cut {l : Addr} {vs : List Value} {ns : List Int} {p1 p2 p3 p4 : Pos} {k : Nat} {R : Value → Heap → Prop} {env : Env} (hE : env = lawEnv h0.objs.size a q cd) (s : LS h0 vd vt m h) (hm : m vScript = some (.ref l)) (hl : h.IsList l vs.toArray) (hi : IntsAre vs ns) (hz : vs.length ≤ 1000000)
    (r : ∀ (h' : Heap) (D : Addr) (ws : List Value), Kp h h' → h.objs.size ≤ D → h'.IsList D ws.toArray → IntsAre ws (ns.take 12) → R (.ref D) h') :
    Go w A (eval (.Subscript (.Name vScript p1) (.Slice none (some (.Constant (.int 12) k p2)) none p3) p4) env) h R := by
  subst hE
  refine Go.sub (Go.nameL s.fr hm ?_)
  refine Go.sliceE (Go.pure ?_)
  refine Go.cInt (k := k) (pos := p2) fun t => ?_
  refine Go.pure ?_
  refine ⟨"list", _, _, isList_ty (isL_kp hl (push_kp h _)), F.slot_list_getitem.lookup, rfl, Go.sliceL (isL_kp hl (push_kp h _)) (Heap.IsSliceOf.new _ _ _ _) .none (.int _ _) .none (by decide) (by rw [List.size_toArray, sizeLine_eq]; omega) (Go.noTemp ?_)⟩
  have i2 := slice_ints_uptoW hi (y := 12) (by decide)
  refine r _ _ (slicePick vs.toArray none (some 12) none).toList ((push_kp h _).trans (push_kp _ _)) (by rw [Heap.size_push]; exact Nat.le_succ _) ?_ i2
  have n := isNew (h := h.push { cls := .type "slice", data := .fields #[.none, .int 12 t, .none] }) (vs := (slicePick vs.toArray none (some 12) none).toList)
  rw [Array.toArray_toList] at n ⊢
  exact n
end
end Mine
end
section
open PySem PySem.W PyProof.Rows PySem.Calls
set_option Elab.async false
set_option maxRecDepth 100000
set_option linter.unusedVariables false
set_option maxHeartbeats 0
namespace Mine
section
variable {w : World} {A : Around} {h0 h : Heap} {vd vt : Option Value} {m : Str → Option Value} {a : Addr} {q : Str} {cd : Value} {S : Flow → Heap → Prop}
theorem law1 {l : Addr} {vs : List Value} {ns : List Int} (hroom : A.depth < recursionLimit) (s : LS h0 none vt m h) (hm : m vScript = some (.ref l)) (hl : h.IsList l vs.toArray) (hi : IntsAre vs ns) (hz : vs.length ≤ 1000000)
    (r : ∀ (h' : Heap) (D : Addr) (ws : List Value), LS h0 (some (.ref D)) vt m h' → h0.objs.size + 2 < D → h'.IsList D ws.toArray → IntsAre ws (drawsOf ns) → Go w A (execs ((bd 17).drop 1) (lawEnv h0.objs.size a q cd)) h' S) :
    Go w A (execs (bd 17) (lawEnv h0.objs.size a q cd)) h S := by
  refine Go.cons_eq rfl (Go.cons (goAssignC (c := h0.objs.size + 1) ?_ (by kernel_rfl) (by kernel_rfl) (by kernel_rfl) (by kernel_rfl)))
  refine Go.binop (law_cut rfl s hm hl hi hz fun h1 D1 ws1 k1 d1 l1 i1 => ?_)
  have s1 := s.kp k1
  refine Go.sub ?_
  refine Go.callE (Go.nameG s1.T (v := .ref 67) (Go.cwF (fd := fnd 9 66 .none (.str (strOf 8) 523)) (Go.spZ ⟨⟨s1.T.objs (67, _) (List.mem_of_getElem? (i := 3) rfl), rfl⟩, ?_⟩)))
  refine (usual_spec s1.T hroom).mono fun v h2 y => ?_
  obtain ⟨k2, U, us, rfl, lu, iu⟩ := y
  have s2 := s1.kp k2
  refine Go.sliceE ?_
  refine Go.callE (Go.nameB s2.T (v := .builtin "len") (Go.cwB (Go.spE (law_cut rfl s2 hm (isL_kp (isL_kp hl k1) k2) hi hz fun h3 D3 ws3 k3 d3 l3 i3 => Go.spZ (Go.lenL l3 ?_ fun t3 => ?_)))))
  · have := ints_len i3
    rw [List.length_take] at this
    rw [List.size_toArray, sizeLine_eq]; omega
  refine Go.pure (Go.pure ?_)
  have e3 : (ws3.toArray.size : Int) = ((ns.take 12).length : Int) := by rw [List.size_toArray, ints_len i3]
  have lu3 := isL_kp (isL_kp lu k3) (push_kp h3 { cls := .type "slice", data := .fields #[.int (ws3.toArray.size : Nat) t3, .none, .none] })
  refine ⟨"list", _, _, isList_ty lu3, F.slot_list_getitem.lookup, rfl, Go.sliceL lu3 (Heap.IsSliceOf.new _ _ _ _) (.int _ _) .none .none (by decide) (by rw [List.size_toArray, ints_len iu, sizeLine_eq]; decide) (Go.temp ?_)⟩
  have i4 := slice_ints_fromW iu (x := (ws3.toArray.size : Int)) (by omega)
  refine Go.addL (vs := ws1) (ws := (slicePick us.toArray (some (ws3.toArray.size : Int)) none none).toList) ?_ ?_ ?_ ?_
  · exact isL_kp (isL_kp (isL_kp (isL_kp l1 k2) k3) (push_kp _ _)) (push_kp _ _)
  · rw [Array.toArray_toList]
    have n := isNew (h := h3.push { cls := .type "slice", data := .fields #[.int (ws3.toArray.size : Nat) t3, .none, .none] }) (vs := (slicePick us.toArray (some (ws3.toArray.size : Int)) none none).toList)
    rw [Array.toArray_toList] at n
    exact n
  · rw [ints_len i1, ints_len i4, sizeLine_eq, List.length_take, List.length_drop]
    have : usual.length = 12 := rfl
    omega
  have sG := ((s2.kp k3).push { cls := .type "slice", data := .fields #[.int (ws3.toArray.size : Nat) t3, .none, .none] }).push { cls := .type "list", data := .seq (slicePick us.toArray (some (ws3.toArray.size : Int)) none none) }
  have ltD := sG.lt
  have sF := sG.push { cls := .type "list", data := .seq (ws1 ++ (slicePick us.toArray (some (ws3.toArray.size : Int)) none none).toList).toArray }
  refine ⟨none, sF.cd, fun h' c b => ?_⟩
  refine r _ _ _ (sF.setD c b) ?_ (isL_sb isNew b ?_) ?_
  · exact ltD
  · exact Nat.ne_of_gt (Nat.lt_trans (Nat.lt_succ_self _) ltD)
  · have e : (ws3.toArray.size : Int).toNat = (ns.take 12).length := by rw [e3]; rfl
    rw [e] at i4
    exact ints_app i1 i4
end
end Mine
end
section
open PySem PySem.W PyProof.Rows PySem.Calls
set_option Elab.async false
set_option maxRecDepth 100000
set_option linter.unusedVariables false
set_option maxHeartbeats 0
namespace Mine
/-- the law's frame and the lists that it made so far -/
structure LL (h0 : Heap) (vd vt : Option Value) (m : Str → Option Value) (Ls : List (Addr × List Value)) (h : Heap) : Prop where
  ls : LS h0 vd vt m h
  li : ∀ p ∈ Ls, h0.objs.size + 2 < p.1 ∧ h.IsList p.1 p.2.toArray
section
variable {h0 h h' : Heap} {vd vt : Option Value} {m m' : Str → Option Value} {Ls : List (Addr × List Value)}
theorem LL.T (s : LL h0 vd vt m Ls h) : TF h := s.ls.T
theorem LL.kp (s : LL h0 vd vt m Ls h) (k : Kp h h') : LL h0 vd vt m Ls h' := ⟨s.ls.kp k, fun p q => ⟨(s.li p q).1, isL_kp (s.li p q).2 k⟩⟩
theorem LL.push (s : LL h0 vd vt m Ls h) (o : Obj) : LL h0 vd vt m Ls (h.push o) := s.kp (push_kp h o)
theorem LL.add (s : LL h0 vd vt m Ls h) {D : Addr} {ys : List Value} (l : h0.objs.size + 2 < D) (x : h.IsList D ys.toArray) : LL h0 vd vt m ((D, ys) :: Ls) h := ⟨s.ls, fun p q => by
  rcases List.mem_cons.mp q with e | e
  · subst e; exact ⟨l, x⟩
  · exact s.li p e⟩
theorem ne0 {n D : Nat} (l : n + 2 < D) : D ≠ n := by omega
theorem ne1 {n D : Nat} (l : n + 2 < D) : D ≠ n + 1 := by omega
theorem ne2 {n D : Nat} (l : n + 2 < D) : D ≠ n + 2 := by omega
theorem LL.set (s : LL h0 vd vt m Ls h) (F : Fr h0 h0.objs.size h' m') (b : Heap.SameBut h0.objs.size h h') : LL h0 vd vt m' Ls h' := ⟨s.ls.set F b, fun p q => ⟨(s.li p q).1, isL_sb (s.li p q).2 b (ne0 (s.li p q).1)⟩⟩
theorem LL.setT {v : Value} (s : LL h0 vd vt m Ls h) (c : h'.IsCell (h0.objs.size + 2) (some v)) (b : Heap.SameBut (h0.objs.size + 2) h h') : LL h0 vd (some v) m Ls h' := ⟨s.ls.setT c b, fun p q => ⟨(s.li p q).1, isL_sb (s.li p q).2 b (ne2 (s.li p q).1)⟩⟩
theorem nn0 {n c : Nat} (l : n + 2 < c) : n ∉ [c] := by simp only [List.mem_cons, List.not_mem_nil, or_false]; omega
theorem nn1 {n c : Nat} (l : n + 2 < c) : n + 1 ∉ [c] := by simp only [List.mem_cons, List.not_mem_nil, or_false]; omega
theorem nn2 {n c : Nat} (l : n + 2 < c) : n + 2 ∉ [c] := by simp only [List.mem_cons, List.not_mem_nil, or_false]; omega
theorem le0 {n c : Nat} (l : n + 2 < c) : n ≤ c := by omega
/-- one object beyond the frame goes another way -/
theorem LS.kx1 (s : LS h0 vd vt m h) {c : Addr} (k : Kx [c] h h') (l : h0.objs.size + 2 < c) : LS h0 vd vt m h' :=
  ⟨fr_kx s.fr k (nn0 l) (fun a ha => noneAt (by rw [List.mem_singleton.mp ha]; exact le0 l)), let ⟨o, ho, e⟩ := s.cd; ⟨o, k _ _ (nn1 l) ho, e⟩, let ⟨o, ho, e⟩ := s.ct; ⟨o, k _ _ (nn2 l) ho, e⟩, s.tf⟩
theorem LL.kx1 (s : LL h0 vd vt m Ls h) {c : Addr} (k : Kx [c] h h') (l : h0.objs.size + 2 < c) (n : ∀ p ∈ Ls, p.1 ≠ c) : LL h0 vd vt m Ls h' := ⟨s.ls.kx1 k l, fun p q => ⟨(s.li p q).1, isList_at (s.li p q).2 fun o e => k _ _ (fun z => n p q (List.mem_singleton.mp z)) e⟩⟩
theorem LL.lt (s : LL h0 vd vt m Ls h) : h0.objs.size + 2 < h.objs.size := s.ls.lt
end
section
variable {w : World} {A : Around} {h h0 : Heap} {env : Env}
/-- a value that a comprehension walks: n turns; the i-th brings a value with P i -/
structure Iter1 (w : World) (A : Around) (h : Heap) (v : Value) (n : Nat) (P : Nat → Value → Prop) : Prop where
  go : Go w A (pyIter v) h fun it h2 => ∃ (I : Addr) (fp wr : List Addr) (St : Nat → Heap → Prop), it = .ref I ∧ Kp h h2 ∧ Walks PW w A I fp wr n P St ∧ St 0 h2 ∧ (∀ b ∈ fp, b < h2.objs.size) ∧ ∀ b ∈ wr, h.get? b = none
theorem iter1L (hh : A.handled = none) {l : Addr} {items : Array Value} (hl : h.IsList l items) : Iter1 w A h (.ref l) items.size (fun i v => items[i]? = some v) := by
  have lt : l < h.objs.size := by
    obtain ⟨o, ho, _⟩ := hl
    exact Heap.lt_size ho
  refine ⟨Go.iterL hl ⟨h.objs.size, _, _, _, rfl, push_kp _ _, Walks.list hh _ l (Nat.ne_of_lt lt) items, ⟨⟨_, Heap.get?_push_size _ rfl, rfl, rfl⟩, hl.push _⟩, ?_, ?_⟩⟩
  · intro b hb
    rw [Heap.size_push]
    simp only [List.mem_cons, List.not_mem_nil, or_false] at hb
    rcases hb with rfl | rfl
    · exact Nat.lt_succ_self _
    · exact Nat.lt_succ_of_lt lt
  · intro b hb
    rw [List.mem_singleton.mp hb]
    exact noneAt (Nat.le_refl _)
theorem kx_new {wr : List Addr} {g h h' : Heap} (k1 : Kp g h) (k2 : Kx wr h h') (hwr : ∀ b ∈ wr, g.get? b = none) : Kp g h' := fun b o e => k2 b o (fun q => by rw [hwr b q] at e; cases e) (k1 b o e)
theorem goComp1 {elt iter : Expr} {x : Str} {px pos : Pos} {scope : Scope} {cls : List (Str × Addr)} {R : Value → Heap → Prop}
    (xi : Go w A (eval iter env) h fun v h1 => ∃ (n : Nat) (G P : Nat → Value → Prop), Iter1 w A h1 v n P ∧ n ≤ 100000 ∧ (∀ (i : Nat) (v : Value) (g : Heap) (Lc : Addr) (mm : Str → Option Value), i < n → P i v → Kp h1 g → g.Ns Lc mm → mm x = some v → Go w A (eval elt (cEnv env scope Lc cls)) g fun y g' => Kp g g' ∧ G i y) ∧
      ∀ (h2 h' : Heap) (ys : List Value), Kp h1 h2 → Kp h1 h' → h'.IsList h2.objs.size ys.toArray → ys.length = n → (∀ j y, ys[j]? = some y → G j y) → R (.ref h2.objs.size) h')
    (hcl : closureFor scope env = pure cls) (hcell : ∀ x ∈ scope.names, x.2 ≠ .cell) (hk : scope.kind = .function) (hvars : (scope.names.filter fun (n, k) => (k == .local || k == .cell) && n != (".0" : Str)) = [(x, .local)])
    (hset : ∀ v, foldedSetIterable iter env v = pure v)
    (hx : ∀ Lc, (cEnv env scope Lc cls).kindOf x = some .local) (hp : ∀ Lc, ((cEnv env scope Lc cls).scope.kind == .class || ((cEnv env scope Lc cls).scope.kind == .module && (cEnv env scope Lc cls).locals != (cEnv env scope Lc cls).globals)) = false) :
    Go w A (eval (.ListComp elt [⟨.Name x px, iter, [], 0⟩] scope pos) env) h R := by
  refine goListComp (goComp hcl hcell hk hvars hset hx hp (xi.mono fun v h1 y => ?_))
  obtain ⟨n, G, P, it, hn, el, fin⟩ := y
  refine it.go.mono fun it h2 z => ?_
  obtain ⟨I, fp, wr, St, rfl, k12, W, s0, hfp, hwr⟩ := z
  refine ⟨I, n, G, wr, rfl, hn, ⟨fp, P, St, W, s0, hfp, fun i v g mm hi hP k hns hm => el i v g _ mm hi hP (kx_new k12 k hwr) hns hm⟩, fun h' ys k hl hlen hg => ?_⟩
  exact fin h2 h' ys k12 (kx_new k12 k hwr) hl hlen hg
theorem ltc {n z : Nat} (l : n + 2 < z) : n + 2 < z + 1 := by omega
theorem ltd {n z : Nat} (l : n + 2 < z) : n < z := by omega
/-- a comprehension that is given to a name at once, in the law's frame -/
theorem lawCompU {elt iter : Expr} {x tgt : Str} {px pos p1 p2 : Pos} {scope : Scope} {cls : List (Str × Addr)} {S : Flow → Heap → Prop} {a : Addr} {q : Str} {cd : Value} {vd vt : Option Value} {m : Str → Option Value} {Ls : List (Addr × List Value)}
    (hE : env = lawEnv h0.objs.size a q cd)
    (xi : Go w A (eval iter env) h fun v h1 => ∃ (n : Nat) (G P : Nat → Value → Prop), Iter1 w A h1 v n P ∧ n ≤ 100000 ∧ LL h0 vd vt m Ls h1 ∧ (∀ (i : Nat) (v : Value) (g : Heap) (Lc : Addr) (mm : Str → Option Value), i < n → P i v → LL h0 vd vt m Ls g → g.Ns Lc mm → mm x = some v → Go w A (eval elt (cEnv env scope Lc cls)) g fun y g' => Kp g g' ∧ G i y) ∧
      ∀ (h' : Heap) (D : Addr) (ys : List Value), LL h0 vd vt (upd m tgt (.ref D)) ((D, ys) :: Ls) h' → ys.length = n → (∀ j y, ys[j]? = some y → G j y) → S .next h')
    (hcl : closureFor scope env = pure cls) (hcell : ∀ x ∈ scope.names, x.2 ≠ .cell) (hk : scope.kind = .function) (hvars : (scope.names.filter fun (n, k) => (k == .local || k == .cell) && n != (".0" : Str)) = [(x, .local)])
    (hset : ∀ v, foldedSetIterable iter env v = pure v)
    (hx : ∀ Lc, (cEnv env scope Lc cls).kindOf x = some .local) (hp : ∀ Lc, ((cEnv env scope Lc cls).scope.kind == .class || ((cEnv env scope Lc cls).scope.kind == .module && (cEnv env scope Lc cls).locals != (cEnv env scope Lc cls).globals)) = false)
    (hl : env.kindOf tgt = some .local) (hs : swapsWith (.ListComp elt [⟨.Name x px, iter, [], 0⟩] scope pos) (some (.Name tgt p1)) p2.line env = Pure.pure true) :
    Go w A (exec (.Assign [.Name tgt p1] (.ListComp elt [⟨.Name x px, iter, [], 0⟩] scope pos) p2) env) h S := by
  refine goAssignU (goComp hcl hcell hk hvars hset hx hp (xi.mono fun v h1 y => ?_)) hs
  obtain ⟨n, G, P, it, hn, s1, el, fin⟩ := y
  refine it.go.mono fun it h2 z => ?_
  obtain ⟨I, fp, wr, St, rfl, k12, W, s0, hfp, hwr⟩ := z
  have lt2 := (s1.kp k12).lt
  have lo2 : ∀ p ∈ Ls, p.1 ≠ h2.objs.size ∧ p.1 ≠ h2.objs.size + 1 := fun p q => by
    obtain ⟨o, ho, _⟩ := ((s1.kp k12).li p q).2
    have := Heap.lt_size ho
    exact ⟨Nat.ne_of_lt this, Nat.ne_of_lt (Nat.lt_succ_of_lt this)⟩
  refine ⟨I, n, G, wr, rfl, hn, ⟨fp, P, St, W, s0, hfp, fun i v g mm hi hP k hns hm => el i v g _ mm hi hP (s1.kp (kx_new k12 k hwr)) hns hm⟩, fun h' ys k hli hlen hg => ?_⟩
  have s' := (s1.kp (kx_new k12 k hwr)).add lt2 hli
  subst hE
  refine Go.assignName s'.ls.fr (fun h'' F'' b'' => ?_) hl rfl
  have s'' := s'.set F'' b''
  refine ⟨sb_kx b'' (List.mem_cons_self ..), ltd lt2, fun h3 k3 => ?_⟩
  refine fin h3 _ ys (s''.kx1 k3 (ltc lt2) fun p q => ?_) hlen hg
  rcases List.mem_cons.mp q with e | e
  · subst e; exact Nat.ne_of_lt (Nat.lt_succ_self _)
  · exact (lo2 p e).2
end
end Mine
end
section
open PySem PySem.W PyProof.Rows PySem.Calls
set_option Elab.async false
set_option maxRecDepth 100000
set_option linter.unusedVariables false
namespace Mine
def keptL : List Nat := [65, 66, 67, 68, 69, 70, 71, 72, 73, 74, 75, 76, 77, 78, 79, 80, 81, 82, 83, 84, 85, 86, 87, 88, 89, 90, 97, 98, 99, 100, 101, 102, 103, 104, 105, 106, 107, 108, 109, 110, 111, 112, 113, 114, 115, 116, 117, 118, 119, 120, 121, 122, 48, 49, 50, 51, 52, 53, 54, 55, 56, 57, 58, 47, 63, 35, 91, 93, 64, 33, 36, 38, 39, 40, 41, 42, 43, 44, 59, 61, 46, 95, 45, 126]
def setL : List Nat := [58, 47, 63, 35, 91, 93, 64, 33, 36, 38, 39, 40, 41, 42, 43, 44, 59, 61, 65, 66, 67, 68, 69, 70, 71, 72, 73, 74, 75, 76, 77, 78, 79, 80, 81, 82, 83, 84, 85, 86, 87, 88, 89, 90, 97, 98, 99, 100, 101, 102, 103, 104, 105, 106, 107, 108, 109, 110, 111, 112, 113, 114, 115, 116, 117, 118, 119, 120, 121, 122, 48, 49, 50, 51, 52, 53, 54, 55, 56, 57, 46, 95, 45, 126]
def digL : List Nat := [48, 49, 50, 51, 52, 53, 54, 55, 56, 57, 65, 66, 67, 68, 69, 70]
def hexL : List Nat := [48, 49, 50, 51, 52, 53, 54, 55, 56, 57, 65, 66, 67, 68, 69, 70, 97, 98, 99, 100, 101, 102]
theorem kept_eq : keptS.cps.toList = keptL := by kernel_rfl
theorem dig_eq : digS.cps.toList = digL := by kernel_rfl
theorem hex_eq : hexS.cps.toList = hexL := by kernel_rfl
theorem set_eq : sStrs.map (·.1) = setL.map fun c => (⟨#[c]⟩ : Str) := by kernel_rfl
theorem inS_eq (c : Nat) : inS ⟨#[c]⟩ = decide (c ∈ setL) := by
  unfold inS
  rw [set_eq, decide_eq_decide, List.mem_map]
  constructor
  · rintro ⟨d, hd, e⟩
    have : d = c := by simpa using congrArg Str.cps e
    exact this ▸ hd
  · exact fun h => ⟨c, h, rfl⟩
theorem kept_lt : ∀ c ∈ keptS.cps.toList, c < 128 := by rw [kept_eq]; decide +kernel
def keepN (b : Bool) (c : UInt8) : Bool := (b && (([c] : List UInt8) == [37])) || (decide (c.toNat < 128) && decide (c.toNat ∈ setL))
def outN (b : Bool) (c : UInt8) : List Nat := (if keepN b c = true then [c] else (u8 ([37] ++ [lw (c.toNat / 16), lw (c.toNat % 16)])).map Builtin.Bytes.toUpper).map (·.toNat)
theorem outN_eq (b : Bool) (c : UInt8) : (outB b c).map (·.toNat) = outN b c := by
  unfold outN outB keepN keepB
  rw [inS_eq]
def encN (o : Int) : List Nat := [37, digL.getD (o.fdiv 16).toNat 0, digL.getD (o.fmod 16).toNat 0]
theorem encN_eq (o : Int) : encO o = encN o := by
  unfold encO encN dig
  rw [dig_eq]
def codedN (b : Bool) (c : Nat) : List Nat := if c = 37 then (if b then [37] else [37, 50, 53]) else if c ∈ keptL then [c] else (octs c).flatMap encN
theorem codedN_eq (b : Bool) (c : Nat) : codedOf b c = codedN b c := by
  unfold codedOf codedN
  simp only [kept_eq, show encO = encN from funext encN_eq]
theorem out_lo : ∀ k < 128, ∀ b, (outB b (Nat.toUInt8 k)).map (·.toNat) = codedOf b k := by
  have h : ∀ k < 128, ∀ b, outN b (Nat.toUInt8 k) = codedN b k := by decide +kernel
  intro k hk b
  rw [outN_eq, codedN_eq]
  exact h k hk b
theorem out_hi : ∀ k < 256, 128 ≤ k → ∀ b, (outB b (Nat.toUInt8 k)).map (·.toNat) = encO (k : Int) := by
  have h : ∀ k < 256, 128 ≤ k → ∀ b, outN b (Nat.toUInt8 k) = encN (k : Int) := by decide +kernel
  intro k hk hk2 b
  rw [outN_eq, encN_eq]
  exact h k hk hk2 b
def oN (c : Nat) : List Nat :=
  if c < 0x800 then [0xC0 + c / 64, 0x80 + c % 64]
  else if c < 0x10000 then [0xE0 + c / 4096, 0x80 + c / 64 % 64, 0x80 + c % 64]
  else [0xF0 + c / 262144, 0x80 + c / 4096 % 64, 0x80 + c / 64 % 64, 0x80 + c % 64]
theorem oN_utf8 {c : Nat} (h : 128 ≤ c) : Str.utf8Of c = (oN c).map Nat.toUInt8 := by
  unfold Str.utf8Of oN
  rw [if_neg (by omega)]
  split
  · rfl
  · split <;> rfl
theorem oN_octs {c : Nat} (h : 128 ≤ c) : octs (c : Int) = (oN c).map (fun k : Nat => (k : Int)) := by
  have d (a n : Int) (h : 0 ≤ n) : a.fdiv n = a / n := Int.fdiv_eq_ediv_of_nonneg _ h
  have m (a n : Int) (h : 0 ≤ n) : a.fmod n = a % n := Int.fmod_eq_emod_of_nonneg _ h
  unfold octs oN
  rw [if_neg (by omega)]
  simp only [d _ 64 (by decide), d _ 4096 (by decide), d _ 262144 (by decide), m _ 64 (by decide)]
  by_cases h1 : c < 2048
  · rw [if_pos (by omega), if_pos (by omega)]
    simp only [List.map_cons, List.map_nil, List.cons.injEq, and_true]
    refine ⟨?_, ?_⟩ <;> omega
  · rw [if_neg (show ¬ (c : Int) < 2048 by omega), if_neg (show ¬ c < 0x800 by omega)]
    by_cases h2 : c < 65536
    · rw [if_pos (show (c : Int) < 65536 by omega), if_pos (show c < 0x10000 by omega)]
      simp only [List.map_cons, List.map_nil, List.cons.injEq, and_true]
      refine ⟨?_, ?_, ?_⟩ <;> omega
    · rw [if_neg (show ¬ (c : Int) < 65536 by omega), if_neg (show ¬ c < 0x10000 by omega)]
      simp only [List.map_cons, List.map_nil, List.cons.injEq, and_true]
      refine ⟨?_, ?_, ?_, ?_⟩ <;> omega
theorem oN_lt {c : Nat} (h : 128 ≤ c) (hc : c < 1114112) : ∀ k ∈ oN c, 128 ≤ k ∧ k < 256 := by
  intro k hk
  unfold oN at hk
  split at hk
  · simp only [List.mem_cons, List.not_mem_nil, or_false] at hk; omega
  · split at hk
    · simp only [List.mem_cons, List.not_mem_nil, or_false] at hk; omega
    · simp only [List.mem_cons, List.not_mem_nil, or_false] at hk; omega
theorem codedOf_hi (b : Bool) {c : Nat} (h : 128 ≤ c) : codedOf b c = (octs c).flatMap encO := by
  unfold codedOf
  rw [if_neg (by omega), if_neg fun q => absurd (kept_lt c q) (by omega)]
theorem flat_map_congr {α β γ : Type} {f : α → List β} {g : β → γ} {k : α → List γ} : ∀ {l : List α}, (∀ x ∈ l, (f x).map g = k x) → (l.flatMap f).map g = l.flatMap k
  | [], _ => rfl
  | a :: r, h => by
    rw [List.flatMap_cons, List.flatMap_cons, List.map_append, h a (List.mem_cons_self ..), flat_map_congr fun x hx => h x (List.mem_cons_of_mem _ hx)]
theorem block_eq (b : Bool) {c : Nat} (hc : c < 1114112) : ((Str.utf8Of c).flatMap (outB b)).map (·.toNat) = codedOf b c := by
  by_cases h : c < 128
  · have e : Str.utf8Of c = [c.toUInt8] := by unfold Str.utf8Of; rw [if_pos (by omega)]
    rw [e, List.flatMap_cons, List.flatMap_nil, List.append_nil]
    exact out_lo c h b
  · have h' : 128 ≤ c := by omega
    rw [codedOf_hi b h', oN_utf8 h', oN_octs h', List.flatMap_map, List.flatMap_map]
    exact flat_map_congr fun k hk => out_hi k (oN_lt h' hc k hk).2 (oN_lt h' hc k hk).1 b
theorem cnt8 {c : Nat} (hc : c < 1114112) : (Str.utf8Of c).countP (· == 37) = if (c == 37) = true then 1 else 0 := by
  by_cases h : c < 128
  · have t : ∀ k < 128, (Str.utf8Of k).countP (· == 37) = if (k == 37) = true then 1 else 0 := by decide +kernel
    exact t c h
  · have h' : 128 ≤ c := by omega
    rw [oN_utf8 h', if_neg (by simp; omega), List.countP_eq_zero]
    intro x hx
    obtain ⟨k, hk, rfl⟩ := List.mem_map.mp hx
    have := oN_lt h' hc k hk
    intro e
    have e2 : (Nat.toUInt8 k).toNat = 37 := congrArg UInt8.toNat (beq_iff_eq.mp e)
    have e3 : (Nat.toUInt8 k).toNat = k % 256 := rfl
    omega
theorem cntU : ∀ {l : List Nat}, (∀ c ∈ l, c < 1114112) → (u8 l).countP (· == 37) = l.countP (· == 37)
  | [], _ => rfl
  | c :: r, h => by
    show (Str.utf8Of c ++ u8 r).countP _ = _
    rw [List.countP_append, List.countP_cons, cnt8 (h c (List.mem_cons_self ..)), cntU fun x hx => h x (List.mem_cons_of_mem _ hx), Nat.add_comm]
theorem cntP_iff {α : Type} {p q : α → Bool} : ∀ {l : List α}, (∀ a ∈ l, p a = true → q a = true) → (l.countP p = l.countP q ↔ ∀ a ∈ l, q a = true → p a = true)
  | [], _ => by simp
  | a :: r, h => by
    have ih := cntP_iff fun x hx => h x (List.mem_cons_of_mem _ hx)
    have le : r.countP p ≤ r.countP q := List.countP_mono_left fun x hx => h x (List.mem_cons_of_mem _ hx)
    have ha := h a (List.mem_cons_self ..)
    rw [List.countP_cons, List.countP_cons, List.forall_mem_cons]
    cases hp : p a <;> cases hq : q a
    · simp [ih]
    · simp; omega
    · rw [hp, hq] at ha; simp at ha
    · simp [ih]
theorem range_map (l : List Nat) : (List.range l.length).map (fun i => l.getD i 0) = l := by
  apply List.ext_getElem
  · simp
  · intro i h1 h2
    simp [List.getD_eq_getElem?_getD, List.getElem?_eq_getElem h2]
theorem bE_eq {l : List Nat} (h : ∀ c ∈ l, c < 1114112) : bE l = begun l := by
  have e1 : (u8 l).toArray.toList.countP (· == 37) = (List.range l.length).countP fun i => l.getD i 0 == 37 := by
    show (u8 l).countP (· == 37) = _
    rw [cntU h]
    conv => lhs; rw [← range_map l]
    rw [List.countP_map]; rfl
  have e2 : cntT l.toArray 0 l.toArray.size = (List.range l.length).countP (tri l.toArray) := by
    unfold cntT
    rw [← List.range_eq_range', List.size_toArray]
  unfold bE
  rw [e1, e2, Bool.eq_iff_iff, beq_iff_eq, Int.natCast_inj, cntP_iff]
  · unfold begun
    rw [List.all_eq_true]
    refine forall_congr' fun i => forall_congr' fun hi => ?_
    have hi := List.mem_range.mp hi
    have gi : l.getD i 0 = l[i] := by simp [List.getD_eq_getElem?_getD, List.getElem?_eq_getElem hi]
    rw [gi]
    unfold okAt
    rw [List.getElem?_eq_getElem hi]
    by_cases q : l[i] = 37
    · have t1 : (l[i] == 37) = true := by rw [q]; rfl
      have t2 : (some l[i] != some 37) = false := by rw [q]; rfl
      rw [t1, t2, Bool.false_or]
      simp only [forall_const]
      unfold tri
      have g0 : l.toArray.getD i 0 = 37 := by simp [Array.getD, hi, q]
      rw [g0]
      by_cases h3 : i + 3 ≤ l.length
      · rw [List.getElem?_eq_getElem (by omega : i + 1 < l.length), List.getElem?_eq_getElem (by omega : i + 2 < l.length)]
        have a1 : l.toArray.getD (i + 1) 0 = l[i + 1] := by simp [Array.getD, (by omega : i + 1 < l.length)]
        have a2 : l.toArray.getD (i + 1 + 1) 0 = l[i + 2] := by simp [Array.getD, (by omega : i + 1 + 1 < l.length)]
        unfold hexes
        rw [a1, a2, hexB_eq, hexB_eq]
        rcases Bool.eq_false_or_eq_true (hexN l[i + 1]) with u | u <;> rcases Bool.eq_false_or_eq_true (hexN l[i + 2]) with v | v <;> simp [u, v, h3]
      · have n2 : l[i + 2]? = none := List.getElem?_eq_none (by omega)
        rw [n2]
        have d0 : decide (i + 3 ≤ l.toArray.size) = false := decide_eq_false (by rw [List.size_toArray]; exact h3)
        rw [d0, Bool.false_and]
        cases l[i + 1]? <;> simp
    · have t1 : (l[i] == 37) = false := by simpa using q
      have t2 : (some l[i] != some 37) = true := by simpa using q
      rw [t1, t2]; simp
  · intro i hi ht
    have hi := List.mem_range.mp hi
    unfold tri at ht
    rw [Bool.and_eq_true, Bool.and_eq_true] at ht
    have := ht.2.1
    simpa [Array.getD, hi, List.getD_eq_getElem?_getD, List.getElem?_eq_getElem hi] using this
theorem encL_eq {l : List Nat} (h : ∀ c ∈ l, c < 1114112) : encL l = coded l := by
  unfold encL coded
  rw [bE_eq h]
  unfold u8
  rw [List.flatMap_assoc]
  exact flat_map_congr fun c hc => block_eq _ (h c hc)
/-! the coding, once more -/
def hd2 : List Nat → Bool | a :: b :: _ => hexN a && hexN b | _ => false
def okL (l : List Nat) : Bool := begun l
theorem okL_cons (c : Nat) (r : List Nat) : okL (c :: r) = ((c != 37 || hd2 r) && okL r) := by
  unfold okL begun
  rw [List.length_cons, List.range_succ_eq_map, List.all_cons, List.all_map]
  have e0 : okAt (c :: r) 0 = (c != 37 || hd2 r) := by
    unfold okAt
    rcases r with _ | ⟨a, _ | ⟨b, t⟩⟩ <;> simp [hd2, bne]
  have e1 : (okAt (c :: r) ∘ Nat.succ) = okAt r := by
    funext i
    simp [okAt]
  rw [e0, e1]
theorem begun_okL (l : List Nat) : begun l = okL l := rfl
theorem hexN_eq (c : Nat) : hexN c = decide (c ∈ hexL) := by unfold hexN; rw [hex_eq]
theorem dig_ok : ∀ n < 16, hexN (dig n) = true ∧ dig n ≠ 37 ∧ dig n < 128 := by
  unfold dig
  simp only [dig_eq, hexN_eq]
  decide +kernel
theorem okL_ne {c : Nat} {r : List Nat} (h : c ≠ 37) : okL (c :: r) = okL r := by
  rw [okL_cons]
  have : (c != 37) = true := by simpa using h
  rw [this]; simp
theorem okL_three {a b : Nat} {r : List Nat} (ha : hexN a = true) (hb : hexN b = true) (na : a ≠ 37) (nb : b ≠ 37) : okL (37 :: a :: b :: r) = okL r := by
  rw [okL_cons, okL_ne na, okL_ne nb]
  simp [hd2, ha, hb]
theorem nib {o : Int} (h : 0 ≤ o ∧ o < 256) : (o.fdiv 16).toNat < 16 ∧ (o.fmod 16).toNat < 16 := by
  rw [Int.fdiv_eq_ediv_of_nonneg _ (by decide), Int.fmod_eq_emod_of_nonneg _ (by decide)]
  omega
theorem okL_octs {r : List Nat} : ∀ {os : List Int}, (∀ o ∈ os, 0 ≤ o ∧ o < 256) → okL (os.flatMap encO ++ r) = okL r
  | [], _ => rfl
  | o :: os, h => by
    have n := nib (h o (List.mem_cons_self ..))
    have a := dig_ok _ n.1
    have b := dig_ok _ n.2
    rw [List.flatMap_cons, List.append_assoc]
    show okL (37 :: dig (o.fdiv 16).toNat :: dig (o.fmod 16).toNat :: (os.flatMap encO ++ r)) = _
    rw [okL_three a.1 b.1 a.2.1 b.2.1]
    exact okL_octs fun x hx => h x (List.mem_cons_of_mem _ hx)
theorem octs_in {c : Nat} (hc : c < 1114112) : ∀ o ∈ octs (c : Int), 0 ≤ o ∧ o < 256 := octs_lt (by omega) (by omega)
theorem okL_block {b : Bool} {c : Nat} {r : List Nat} (hb : b = false ∨ c ≠ 37) (hc : c < 1114112) : okL (codedOf b c ++ r) = okL r := by
  unfold codedOf
  by_cases h : c = 37
  · have : b = false := hb.resolve_right fun q => q h
    subst this
    rw [if_pos h]
    show okL (37 :: 50 :: 53 :: r) = _
    exact okL_three (by rw [hexN_eq]; decide +kernel) (by rw [hexN_eq]; decide +kernel) (by decide) (by decide)
  · rw [if_neg h]
    split
    · exact okL_ne h
    · exact okL_octs (octs_in hc)
theorem hex_stays : ∀ a ∈ hexS.cps.toList, codedOf true a = [a] := by
  simp only [hex_eq, codedN_eq]
  decide +kernel
theorem okL_coded_false : ∀ {l : List Nat}, (∀ c ∈ l, c < 1114112) → okL (l.flatMap (codedOf false)) = true
  | [], _ => rfl
  | c :: r, h => by
    rw [List.flatMap_cons, okL_block (.inl rfl) (h c (List.mem_cons_self ..))]
    exact okL_coded_false fun x hx => h x (List.mem_cons_of_mem _ hx)
theorem okL_coded_true : ∀ {l : List Nat}, (∀ c ∈ l, c < 1114112) → okL l = true → okL (l.flatMap (codedOf true)) = true
  | [], _, _ => rfl
  | c :: r, h, k => by
    rw [okL_cons, Bool.and_eq_true, Bool.or_eq_true] at k
    have ih := okL_coded_true (fun x hx => h x (List.mem_cons_of_mem _ hx)) k.2
    rw [List.flatMap_cons]
    by_cases q : c = 37
    · subst q
      have e : codedOf true 37 = [37] := rfl
      rw [e]
      show okL (37 :: r.flatMap (codedOf true)) = true
      rw [okL_cons, ih, Bool.and_true, Bool.or_eq_true]
      right
      have k1 : hd2 r = true := k.1.resolve_left (by decide)
      rcases r with _ | ⟨a, _ | ⟨b, t⟩⟩
      · exact k1
      · simp [hd2] at k1
      · simp only [hd2, Bool.and_eq_true] at k1
        have ea := hex_stays a (by simpa [hexN] using k1.1)
        have eb := hex_stays b (by simpa [hexN] using k1.2)
        rw [List.flatMap_cons, List.flatMap_cons, ea, eb]
        show (hexN a && hexN b) = true
        rw [k1.1, k1.2]; rfl
    · rw [okL_block (.inr q) (h c (List.mem_cons_self ..)), ih]
theorem begun_coded {l : List Nat} (h : ∀ c ∈ l, c < 1114112) : begun (coded l) = true := by
  rw [begun_okL]
  unfold coded
  cases q : begun l with
  | false => exact okL_coded_false h
  | true => exact okL_coded_true h (by rw [← begun_okL, q])
theorem kept_stays : ∀ a ∈ keptS.cps.toList, codedOf true a = [a] := by
  simp only [kept_eq, codedN_eq]
  decide +kernel
theorem dig_stays : ∀ n < 16, codedOf true (dig n) = [dig n] := by
  unfold dig
  simp only [dig_eq, codedN_eq]
  decide +kernel
theorem codedOf_stays {b : Bool} {c : Nat} (hc : c < 1114112) : ∀ x ∈ codedOf b c, codedOf true x = [x] ∧ x < 128 := by
  have e37 : codedOf true 37 = [37] := by rw [codedN_eq]; decide +kernel
  have e50 : codedOf true 50 = [50] := by rw [codedN_eq]; decide +kernel
  have e53 : codedOf true 53 = [53] := by rw [codedN_eq]; decide +kernel
  intro x hx
  unfold codedOf at hx
  split at hx
  · split at hx
    · rw [List.mem_singleton.mp hx]; exact ⟨e37, by decide⟩
    · simp only [List.mem_cons, List.not_mem_nil, or_false] at hx
      rcases hx with rfl | rfl | rfl
      · exact ⟨e37, by decide⟩
      · exact ⟨e50, by decide⟩
      · exact ⟨e53, by decide⟩
  · split at hx
    · rename_i hk
      rw [List.mem_singleton.mp hx]; exact ⟨kept_stays c hk, kept_lt c hk⟩
    · obtain ⟨o, ho, hx⟩ := List.mem_flatMap.mp hx
      have n := nib (octs_in hc o ho)
      unfold encO at hx
      simp only [List.mem_cons, List.not_mem_nil, or_false] at hx
      rcases hx with rfl | rfl | rfl
      · exact ⟨e37, by decide⟩
      · exact ⟨dig_stays _ n.1, (dig_ok _ n.1).2.2⟩
      · exact ⟨dig_stays _ n.2, (dig_ok _ n.2).2.2⟩
theorem flat_stays {f : Nat → List Nat} : ∀ {l : List Nat}, (∀ x ∈ l, f x = [x]) → l.flatMap f = l
  | [], _ => rfl
  | a :: r, h => by
    rw [List.flatMap_cons, h a (List.mem_cons_self ..), flat_stays fun x hx => h x (List.mem_cons_of_mem _ hx)]; rfl
theorem coded_mem {l : List Nat} (h : ∀ c ∈ l, c < 1114112) : ∀ x ∈ coded l, codedOf true x = [x] ∧ x < 128 := fun x hx =>
  let ⟨c, hc, q⟩ := List.mem_flatMap.mp hx
  codedOf_stays (h c hc) x q
theorem coded_lt {l : List Nat} (h : ∀ c ∈ l, c < 1114112) : ∀ x ∈ coded l, x < 1114112 := fun x hx => Nat.lt_trans (coded_mem h x hx).2 (by decide)
theorem coded_again {l : List Nat} (h : ∀ c ∈ l, c < 1114112) : encL (coded l) = coded l := by
  rw [encL_eq (coded_lt h)]
  show (coded l).flatMap (codedOf (begun (coded l))) = coded l
  rw [begun_coded h]
  exact flat_stays fun x hx => (coded_mem h x hx).1
/-! sizes and surrogates -/
def Fine (l : List Nat) : Prop := ∀ c ∈ l, c < 1114112 ∧ Str.isSurrogate c = false
theorem lo_fine {c : Nat} (h : c < 128) : c < 1114112 ∧ Str.isSurrogate c = false := by
  refine ⟨by omega, ?_⟩
  unfold Str.isSurrogate
  rw [decide_eq_false (by omega)]; rfl
theorem u8_len (l : List Nat) : (u8 l).length ≤ 4 * l.length := by
  refine flat_len fun c _ => ?_
  unfold Str.utf8Of
  split
  · simp
  · split
    · simp
    · split <;> simp
theorem coded_fine {l : List Nat} (h : Fine l) : Fine (coded l) := fun x hx => lo_fine (coded_mem (fun c hc => (h c hc).1) x hx).2
theorem coded_len (l : List Nat) : (coded l).length ≤ 12 * l.length := flat_len fun c _ => codedOf_len _ c
theorem kep_lt : ∀ n < 84, kep n < 128 := by
  unfold kep
  simp only [kept_eq]
  decide +kernel
theorem hxd_lt : ∀ n < 22, hxd n < 128 := by
  unfold hxd
  simp only [hex_eq]
  decide +kernel
theorem ggd_lt : ∀ n < 4, ggd n < 128 := by decide +kernel
theorem piece_fine (n : Int) (b : Bool) : Fine (pieceOf n b) ∧ (pieceOf n b).length ≤ 3 := by
  have h84 := kep_lt _ (fmn (n.fdiv 8) 84 (by decide))
  have h22 := hxd_lt _ (fmn (n.fdiv 8) 22 (by decide))
  have h22' := hxd_lt _ (fmn ((n.fdiv 8).fdiv 22) 22 (by decide))
  have g4 := ggd_lt _ (fmn (n.fdiv 8) 4 (by decide))
  have h4 := hxd_lt _ (fmn ((n.fdiv 8).fdiv 4) 22 (by decide))
  have h128 := fmn (n.fdiv 8) 128 (by decide)
  have h1920 := fm (n.fdiv 8) 1920 (by decide)
  have h1110016 := fm (n.fdiv 8) 1110016 (by decide)
  unfold pieceOf Fine
  repeat' split
  all_goals refine ⟨fun c hc => ?_, by simp⟩
  all_goals simp only [List.mem_cons, List.not_mem_nil, or_false] at hc
  · subst hc; exact lo_fine h84
  · rcases hc with rfl | rfl | rfl
    · exact lo_fine (by decide)
    · exact lo_fine h22
    · exact lo_fine h22'
  · subst hc; exact lo_fine (by decide)
  · rcases hc with rfl | rfl
    · exact lo_fine (by decide)
    · exact lo_fine h22
  · rcases hc with rfl | rfl | rfl
    · exact lo_fine (by decide)
    · exact lo_fine g4
    · exact lo_fine h4
  · rcases hc with rfl | rfl | rfl <;> exact lo_fine (by decide)
  · subst hc; exact lo_fine h128
  · subst hc
    refine ⟨by omega, ?_⟩
    unfold Str.isSurrogate
    rw [decide_eq_false (by omega)]; rfl
  · rename_i q
    have q := of_decide_eq_true q
    subst hc
    refine ⟨by omega, ?_⟩
    unfold Str.isSurrogate
    rw [Bool.and_eq_false_iff]
    right
    exact decide_eq_false (by omega)
  · rename_i q
    have q : ¬ (2048 + (n.fdiv 8).fmod 1110016 ≥ 55296) := fun z => q (decide_eq_true z)
    subst hc
    refine ⟨by omega, ?_⟩
    unfold Str.isSurrogate
    rw [decide_eq_false (by omega)]; rfl
def walkOf (d : Int) : List Nat := (List.range 128).map fun i : Nat => (((i : Int) + d).fmod 128).toNat
def piecesOf (ds : List Int) (b : Bool) : List Nat := ds.flatMap (pieceOf · b)
theorem walk_fine (d : Int) : Fine (walkOf d) ∧ (walkOf d).length = 128 := by
  refine ⟨fun c hc => ?_, by simp [walkOf]⟩
  obtain ⟨i, _, rfl⟩ := List.mem_map.mp hc
  exact lo_fine (fmn _ 128 (by decide))
theorem pieces_fine (ds : List Int) (b : Bool) : Fine (piecesOf ds b) ∧ (piecesOf ds b).length ≤ 3 * ds.length := by
  refine ⟨fun c hc => ?_, flat_len fun n _ => (piece_fine n b).2⟩
  obtain ⟨n, _, q⟩ := List.mem_flatMap.mp hc
  exact (piece_fine n b).1 c q
end Mine
end
section
open PySem PySem.W PyProof.Rows PySem.Calls
set_option Elab.async false
set_option maxRecDepth 100000
set_option linter.unusedVariables false
set_option maxHeartbeats 0
namespace Mine
section
variable {w : World} {A : Around} {h h0 : Heap} {env : Env} {m : Str → Option Value}
theorem Go.nameN {x : Str} {pos : Pos} {v : Value} {R : Value → Heap → Prop} (F : h.Ns env.locals m) (hv : m x = some v) (r : R v h) (hk : env.scope.kind = .function := by kernel_rfl) (hl : env.kindOf x = some .local := by kernel_rfl) (hd : (x == ("__debug__" : Str)) = false := by decide +kernel) :
    Go w A (eval (.Name x pos) env) h R := Go.lib fun _ _ _ _ => wpAny_Name (wpAny_loadName_local hk hl F hv ⟨rfl, rfl, rfl, r⟩) hd
theorem strsOf : ∀ {ys : List Value} {n : Nat} {f : Nat → Str}, ys.length = n → (∀ (j : Nat) (y : Value), ys[j]? = some y → ∃ t, y = .str (f j) t) → StrsAre ys ((List.range n).map f)
  | [], n, f, hn, _ => by subst hn; exact .nil
  | y :: r, n, f, hn, h => by
    subst hn
    rw [List.length_cons, List.range_succ_eq_map, List.map_cons, List.map_map]
    obtain ⟨t, rfl⟩ := h 0 y rfl
    exact .cons _ t (strsOf rfl fun j z e => h (j + 1) z e)
theorem iter1R (hh : A.handled = none) {r : Addr} {t u v : Tok} (hr : IsRange h r 0 128 1 t u v) : Iter1 w A h (.ref r) 128 (fun i v => ∃ t, v = .int (0 + (i : Nat) * 1) t) := by
  have W := Walks.range (prog := PW) (w := w) hh h.objs.size 0 1 128
  refine ⟨goIterR hr (small_one (by decide) (by decide) (by decide) (by decide)) ⟨h.objs.size, [h.objs.size], [h.objs.size], _, rfl, push_kp _ _, W, ?_, ?_, ?_⟩⟩
  · have e1 : Builtin.Range.rangeSize 0 128 1 = 128 := by decide +kernel
    rw [e1]
    exact Heap.get?_push_size _ rfl
  · intro b hb
    rw [List.mem_singleton.mp hb, Heap.size_push]
    exact Nat.lt_succ_self _
  · intro b hb
    rw [List.mem_singleton.mp hb]
    exact noneAt (Nat.le_refl _)
theorem join_empty : ∀ (ls : List (List Nat)), Str.join ⟨#[]⟩ (ls.map SL) = SL ls.flatten
  | [] => rfl
  | [a] => by simp [Str.join]
  | a :: b :: r => by
    show SL a ++ ⟨#[]⟩ ++ Str.join ⟨#[]⟩ ((b :: r).map SL) = _
    rw [join_empty (b :: r)]
    have e : SL a ++ ⟨#[]⟩ = SL a := Str.append_empty (SL a)
    rw [e, SL_app]; rfl
theorem goJoin {D : Addr} {ys : List Value} {ls : List (List Nat)} {t : Tok} {R : Value → Heap → Prop} (hl : h.IsList D ys.toArray) (hs : StrsAre ys (ls.map SL)) (hz : ls.flatten.length ≤ 1000000) (r : ∀ t, R (.str (SL ls.flatten) t) h) : Go w A (call (.builtin "str.join") [.str ⟨#[]⟩ t, .ref D]) h R := by
  obtain ⟨l, rfl, ht⟩ := strsAre_values hs
  refine Go.lib fun g d k os => SC.join (texts := ls.map SL) hl ht (joinOk_of ?_) fun t' k' => ⟨rfl, rfl, rfl, ?_⟩
  · have e : ((ls.map SL).map (·.length)).sum = ls.flatten.length := by
      rw [List.length_flatten, List.map_map]
      congr 1
    rw [e]
    show _ + _ * 0 ≤ _
    omega
  · have e : PySem.Txt.join ⟨#[]⟩ (ls.map SL) = SL ls.flatten := (StrLaws.glued_eq_join _ _).trans (join_empty ls)
    rw [e]
    exact r t'
theorem flat1 {α : Type} (f : α → Nat) : ∀ l : List α, (l.map fun j => [f j]).flatten = l.map f
  | [] => rfl
  | a :: r => by rw [List.map_cons, List.flatten_cons, flat1 f r]; rfl
theorem range_getD {α β : Type} (f : α → β) (d : α) (l : List α) : (List.range l.length).map (fun i => f (l.getD i d)) = l.map f := by
  apply List.ext_getElem
  · simp
  · intro i h1 h2
    have h3 : i < l.length := by simpa using h2
    simp [List.getD_eq_getElem?_getD, List.getElem?_eq_getElem h3]
theorem ints_getD {vs : List Value} {ns : List Int} (i : IntsAre vs ns) {k : Nat} {v : Value} (e : vs.toArray[k]? = some v) : ∃ t, v = .int (ns.getD k 0) t := by
  obtain ⟨n, t, en, rfl⟩ := ints_at i k v (by simpa using e)
  exact ⟨t, by rw [List.getD_eq_getElem?_getD, en]; rfl⟩
abbrev vWalk : Str := Str.ofString "walk"
abbrev vWhole : Str := Str.ofString "whole"
abbrev vMixed : Str := Str.ofString "mixed"
abbrev vTexts : Str := Str.ofString "texts"
end
section
variable {w : World} {A : Around} {h0 h : Heap} {vd vt : Option Value} {m : Str → Option Value} {a : Addr} {q : Str} {cd : Value} {S : Flow → Heap → Prop}
theorem law2 {D : Addr} {ws : List Value} {ds : List Int} (hh : A.handled = none) (s : LL h0 (some (.ref D)) vt m [(D, ws)] h) (iw : IntsAre ws ds) (hd : ds.length = 12)
    (r : ∀ h' t, LL h0 (some (.ref D)) vt (upd m vWalk (.str (SL (walkOf (ds.getD 0 0))) t)) [(D, ws)] h' → Go w A (execs ((bd 17).drop 2) (lawEnv h0.objs.size a q cd)) h' S) :
    Go w A (execs ((bd 17).drop 1) (lawEnv h0.objs.size a q cd)) h S := by
  refine Go.cons_eq rfl (Go.cons (Go.assign ?_))
  refine Go.meth PySem.F.plainAttrs_str PySem.F.slot_str_join PySem.F.type_str_join (Go.cStr fun t => ⟨ty_str, noRefS, Go.cwB (Go.spE (goComp1 (cls := [(vDraws, h0.objs.size + 1)]) ?_ (by kernel_rfl) (by decide +kernel) (by kernel_rfl) (by kernel_rfl) (fun _ => by kernel_rfl) (fun _ => by kernel_rfl) (fun _ => by kernel_rfl)))⟩)
  have s0 := s
  refine Go.callE (Go.nameB s.T (v := .type "range") (Go.cwT (Go.spE (Go.cInt fun t0 => Go.spZ (goRange1 fun t1 t2 => ?_)))))
  have sR := s.push { cls := .type "range", data := .fields #[.int 0 t1, .int 128 t0, .int 1 t2] }
  refine ⟨128, fun i y => ∃ t, y = .str (SL [(((i : Int) + ds.getD 0 0).fmod 128).toNat]) t, _, iter1R hh (IsRange.new _ _ _ _ _ _ _), by decide, ?_, ?_⟩
  · rintro i v g Lc mm hi ⟨ti, rfl⟩ k hns hm
    have sg := sR.kp k
    refine Go.callE (Go.nameB sg.T (v := .builtin "chr") (Go.cwB (Go.spE (Go.binop (Go.binop (Go.nameN hns hm ?_))))))
    obtain ⟨w0, e0⟩ : ∃ w0, ws[(0 : Nat)]? = some w0 := by
      have : 0 < ws.length := by rw [ints_len iw, hd]; decide
      exact ⟨_, List.getElem?_eq_getElem this⟩
    obtain ⟨d0, td, ed, rfl⟩ := ints_at iw 0 w0 e0
    have lD := (sg.li (D, ws) (List.mem_cons_self ..)).2
    refine Go.sub (goNameC sg.ls.cd ?_ (by kernel_rfl) (by kernel_rfl) (by kernel_rfl) (by decide +kernel))
    refine Go.cInt fun tz => ⟨"list", _, _, isList_ty lD, F.slot_list_getitem.lookup, rfl, Go.itemL lD (by decide) (by simpa using e0) (by rw [List.size_toArray, ints_len iw, hd, sizeLine_eq]; decide) (Go.noTemp ?_)⟩
    refine Go.addI fun ta => Go.cInt fun tb => Go.modI (by decide) fun tc => Go.spZ (Go.chr ?_ fun te => ⟨Kp.rfl _, te, ?_⟩)
    · have := fm (0 + (i : Int) * 1 + d0) 128 (by decide)
      rw [Bool.or_eq_false_iff]
      exact ⟨decide_eq_false (by omega), decide_eq_false (by omega)⟩
    · have e1 : ds.getD 0 0 = d0 := by rw [List.getD_eq_getElem?_getD, ed]; rfl
      rw [e1, show (0 : Int) + (i : Int) * 1 = (i : Int) by omega]
  · intro h2 h' ys k2 k' hl hn hg
    have s' := sR.kp k'
    refine Go.spZ ?_
    have e2 : (List.range 128).map (fun j : Nat => SL [(((j : Int) + ds.getD 0 0).fmod 128).toNat]) = ((List.range 128).map (fun j : Nat => [(((j : Int) + ds.getD 0 0).fmod 128).toNat])).map SL := by rw [List.map_map]; rfl
    have e3 : ((List.range 128).map (fun j : Nat => [(((j : Int) + ds.getD 0 0).fmod 128).toNat])).flatten = walkOf (ds.getD 0 0) := by
      exact flat1 _ _
    refine goJoin hl (ls := (List.range 128).map (fun j : Nat => [(((j : Int) + ds.getD 0 0).fmod 128).toNat])) (e2 ▸ strsOf hn hg) ?_ fun t3 => ?_
    · rw [e3, (walk_fine _).2]; decide
    · rw [e3]
      exact ⟨_, _, s'.ls.fr, fun h3 F3 b3 => r _ _ (s'.set F3 b3)⟩
theorem law3 {D : Addr} {ws : List Value} {ds : List Int} (hroom : A.depth < recursionLimit) (hh : A.handled = none) (s : LL h0 (some (.ref D)) vt m [(D, ws)] h) (iw : IntsAre ws ds) (hd : ds.length = 12)
    (r : ∀ h' t, LL h0 (some (.ref D)) vt (upd m vWhole (.str (SL (piecesOf ds true)) t)) [(D, ws)] h' → Go w A (execs ((bd 17).drop 3) (lawEnv h0.objs.size a q cd)) h' S) :
    Go w A (execs ((bd 17).drop 2) (lawEnv h0.objs.size a q cd)) h S := by
  refine Go.cons_eq rfl (Go.cons (Go.assign ?_))
  refine Go.meth PySem.F.plainAttrs_str PySem.F.slot_str_join PySem.F.type_str_join (Go.cStr fun t => ⟨ty_str, noRefS, Go.cwB (Go.spE (goComp1 (cls := []) ?_ (by kernel_rfl) (by decide +kernel) (by kernel_rfl) (by kernel_rfl) (fun _ => by kernel_rfl) (fun _ => by kernel_rfl) (fun _ => by kernel_rfl)))⟩)
  have lD := (s.li (D, ws) (List.mem_cons_self ..)).2
  refine goNameC s.ls.cd ?_ (by kernel_rfl) (by kernel_rfl) (by kernel_rfl) (by decide +kernel)
  have hwl : ws.toArray.size = ds.length := by rw [List.size_toArray, ints_len iw]
  refine ⟨_, fun i y => ∃ t, y = .str (SL (pieceOf (ds.getD i 0) true)) t, _, iter1L hh lD, by rw [hwl, hd]; decide, ?_, ?_⟩
  · rintro i v g Lc mm hi e k hns hm
    have sg := s.kp k
    obtain ⟨tn, rfl⟩ := ints_getD iw e
    refine Go.callE (Go.nameG sg.T (v := .ref 95) (Go.cwF (fd := fnd 16 94 .none (.str (strOf 8) 523)) (Go.spE (Go.nameN hns hm (Go.spE (Go.cBool (Go.spZ ⟨⟨sg.T.objs (95, _) (List.mem_of_getElem? (i := 7) rfl), rfl⟩, ?_⟩)))))))
    exact piece_spec sg.T hroom hh _ _ _
  · intro h2 h' ys k2 k' hl hn hg
    have s' := s.kp k'
    refine Go.spZ ?_
    have e2 : (List.range ws.toArray.size).map (fun i => SL (pieceOf (ds.getD i 0) true)) = (ds.map (pieceOf · true)).map SL := by
      rw [hwl, List.map_map]
      exact range_getD (fun n => SL (pieceOf n true)) 0 ds
    have e3 : (ds.map (pieceOf · true)).flatten = piecesOf ds true := (List.flatMap_def ..).symm
    refine goJoin hl (e2 ▸ strsOf hn hg) ?_ fun t3 => ?_
    · rw [e3]
      have := (pieces_fine ds true).2
      omega
    · rw [e3]
      exact ⟨_, _, s'.ls.fr, fun h3 F3 b3 => r _ _ (s'.set F3 b3)⟩
theorem law4 {D : Addr} {ws : List Value} {ds : List Int} (hroom : A.depth < recursionLimit) (hh : A.handled = none) (s : LL h0 (some (.ref D)) vt m [(D, ws)] h) (iw : IntsAre ws ds) (hd : ds.length = 12)
    (r : ∀ h' t, LL h0 (some (.ref D)) vt (upd m vMixed (.str (SL (piecesOf ds false)) t)) [(D, ws)] h' → Go w A (execs ((bd 17).drop 4) (lawEnv h0.objs.size a q cd)) h' S) :
    Go w A (execs ((bd 17).drop 3) (lawEnv h0.objs.size a q cd)) h S := by
  refine Go.cons_eq rfl (Go.cons (Go.assign ?_))
  refine Go.meth PySem.F.plainAttrs_str PySem.F.slot_str_join PySem.F.type_str_join (Go.cStr fun t => ⟨ty_str, noRefS, Go.cwB (Go.spE (goComp1 (cls := []) ?_ (by kernel_rfl) (by decide +kernel) (by kernel_rfl) (by kernel_rfl) (fun _ => by kernel_rfl) (fun _ => by kernel_rfl) (fun _ => by kernel_rfl)))⟩)
  have lD := (s.li (D, ws) (List.mem_cons_self ..)).2
  refine goNameC s.ls.cd ?_ (by kernel_rfl) (by kernel_rfl) (by kernel_rfl) (by decide +kernel)
  have hwl : ws.toArray.size = ds.length := by rw [List.size_toArray, ints_len iw]
  refine ⟨_, fun i y => ∃ t, y = .str (SL (pieceOf (ds.getD i 0) false)) t, _, iter1L hh lD, by rw [hwl, hd]; decide, ?_, ?_⟩
  · rintro i v g Lc mm hi e k hns hm
    have sg := s.kp k
    obtain ⟨tn, rfl⟩ := ints_getD iw e
    refine Go.callE (Go.nameG sg.T (v := .ref 95) (Go.cwF (fd := fnd 16 94 .none (.str (strOf 8) 523)) (Go.spE (Go.nameN hns hm (Go.spE (Go.cBool (Go.spZ ⟨⟨sg.T.objs (95, _) (List.mem_of_getElem? (i := 7) rfl), rfl⟩, ?_⟩)))))))
    exact piece_spec sg.T hroom hh _ _ _
  · intro h2 h' ys k2 k' hl hn hg
    have s' := s.kp k'
    refine Go.spZ ?_
    have e2 : (List.range ws.toArray.size).map (fun i => SL (pieceOf (ds.getD i 0) false)) = (ds.map (pieceOf · false)).map SL := by
      rw [hwl, List.map_map]
      exact range_getD (fun n => SL (pieceOf n false)) 0 ds
    have e3 : (ds.map (pieceOf · false)).flatten = piecesOf ds false := (List.flatMap_def ..).symm
    refine goJoin hl (e2 ▸ strsOf hn hg) ?_ fun t3 => ?_
    · rw [e3]
      have := (pieces_fine ds false).2
      omega
    · rw [e3]
      exact ⟨_, _, s'.ls.fr, fun h3 F3 b3 => r _ _ (s'.set F3 b3)⟩
end
end Mine
end
section
open PySem PySem.W PyProof.Rows PySem.Calls
set_option Elab.async false
set_option maxRecDepth 100000
set_option linter.unusedVariables false
set_option maxHeartbeats 0
namespace Mine
abbrev vDue : Str := Str.ofString "due"
abbrev vKinds : Str := Str.ofString "kinds"
abbrev vAgain : Str := Str.ofString "again"
abbrev vNothing : Str := Str.ofString "nothing"
/-- the four texts -/
def textsOf (ds : List Int) : List (List Nat) := [walkOf (ds.getD 0 0), piecesOf ds true, piecesOf ds true ++ [37], piecesOf ds false]
theorem texts_fine {ds : List Int} (hd : ds.length = 12) : ∀ l ∈ textsOf ds, Fine l ∧ l.length ≤ 128 := by
  have w := walk_fine (ds.getD 0 0)
  have p := pieces_fine ds true
  have q := pieces_fine ds false
  intro l hl
  unfold textsOf at hl
  simp only [List.mem_cons, List.not_mem_nil, or_false] at hl
  rcases hl with rfl | rfl | rfl | rfl
  · exact ⟨w.1, by rw [w.2]; decide⟩
  · exact ⟨p.1, by omega⟩
  · refine ⟨fun c hc => ?_, by rw [List.length_append]; simp only [List.length_cons, List.length_nil]; omega⟩
    rcases List.mem_append.mp hc with h | h
    · exact p.1 c h
    · rw [List.mem_singleton.mp h]; exact lo_fine (by decide)
  · exact ⟨q.1, by omega⟩
theorem strs_len {vs : List Value} {ys : List Str} (i : StrsAre vs ys) : vs.length = ys.length := by
  induction i with
  | nil => rfl
  | cons y t _ ih => simp [ih]
theorem strs_getD {vs : List Value} {ls : List (List Nat)} (i : StrsAre vs (ls.map SL)) {k : Nat} {v : Value} (e : vs.toArray[k]? = some v) : ∃ t, v = .str (SL (ls.getD k [])) t ∧ ls.getD k [] ∈ ls := by
  have e' : vs[k]? = some v := by simpa using e
  clear e
  generalize hy : ls.map SL = ys at i
  induction i generalizing ls k with
  | nil => simp at e'
  | cons y t _ ih =>
    obtain ⟨l, ls', rfl, rfl, rfl⟩ := List.map_eq_cons_iff.mp hy
    cases k with
    | zero =>
      rw [List.getElem?_cons_zero, Option.some.injEq] at e'
      exact ⟨t, e'.symm, List.mem_cons_self ..⟩
    | succ k =>
      obtain ⟨t', a, b⟩ := ih (by simpa using e') rfl
      exact ⟨t', a, List.mem_cons_of_mem _ b⟩
section
variable {w : World} {A : Around} {h0 h : Heap} {vd vt : Option Value} {m : Str → Option Value} {a : Addr} {q : Str} {cd : Value} {S : Flow → Heap → Prop} {Ls : List (Addr × List Value)}
theorem law5 {ds : List Int} {t1 t2 t3 : Tok} (hd : ds.length = 12) (s : LL h0 vd vt m Ls h) (mw : m vWalk = some (.str (SL (walkOf (ds.getD 0 0))) t1)) (mo : m vWhole = some (.str (SL (piecesOf ds true)) t2)) (mx : m vMixed = some (.str (SL (piecesOf ds false)) t3))
    (r : ∀ h' X tv, LL h0 vd vt (upd m vTexts (.ref X)) ((X, tv) :: Ls) h' → StrsAre tv ((textsOf ds).map SL) → Go w A (execs ((bd 17).drop 5) (lawEnv h0.objs.size a q cd)) h' S) :
    Go w A (execs ((bd 17).drop 4) (lawEnv h0.objs.size a q cd)) h S := by
  refine Go.cons_eq rfl (Go.cons (Go.assign (Go.listE (Go.spE (Go.nameL s.ls.fr mw (Go.spE (Go.nameL s.ls.fr mo (Go.spE (Go.binop (Go.nameL s.ls.fr mo (Go.cStr fun t4 => Go.addS ?_ fun t5 => Go.spE (Go.nameL s.ls.fr mx (Go.spZ ⟨small 4 rfl (by decide), ?_⟩)))))))))))))
  · have := (pieces_fine ds true).2
    rw [SL_len, sizeLine_eq]
    show _ + 1 ≤ _
    omega
  · have s' := (s.push { cls := .type "list", data := .seq [Value.str (SL (walkOf (ds.getD 0 0))) t1, .str (SL (piecesOf ds true)) t2, .str (SL (piecesOf ds true) ++ Str.ofString "%") t5, .str (SL (piecesOf ds false)) t3].toArray }).add s.lt isNew
    refine ⟨_, _, s'.ls.fr, fun h' F' b' => r h' _ _ (s'.set F' b') ?_⟩
    have e : SL (piecesOf ds true) ++ Str.ofString "%" = SL (piecesOf ds true ++ [37]) := by rw [pct]; exact SL_app _ [37]
    rw [e]
    exact .cons _ _ (.cons _ _ (.cons _ _ (.cons _ _ .nil)))
theorem law6 {ds : List Int} {X : Addr} {tv : List Value} (hroom : A.depth + 1 < recursionLimit) (hh : A.handled = none) (hd : ds.length = 12) (s : LL h0 vd vt m ((X, tv) :: Ls) h) (mt : m vTexts = some (.ref X)) (ht : StrsAre tv ((textsOf ds).map SL))
    (r : ∀ h' U us, LL h0 vd vt (upd m vDue (.ref U)) ((U, us) :: (X, tv) :: Ls) h' → StrsAre us (((textsOf ds).map coded).map SL) → Go w A (execs ((bd 17).drop 6) (lawEnv h0.objs.size a q cd)) h' S) :
    Go w A (execs ((bd 17).drop 5) (lawEnv h0.objs.size a q cd)) h S := by
  have tl : tv.toArray.size = (textsOf ds).length := by rw [List.size_toArray, strs_len ht, List.length_map]
  refine Go.cons_eq rfl (Go.cons (lawCompU (cls := []) (vd := vd) (vt := vt) (m := m) (Ls := (X, tv) :: Ls) rfl ?_ (by kernel_rfl) (by decide +kernel) (by kernel_rfl) (by kernel_rfl) (fun _ => by kernel_rfl) (fun _ => by kernel_rfl) (fun _ => by kernel_rfl) (by kernel_rfl) (by kernel_rfl)))
  have lX := (s.li (X, tv) (List.mem_cons_self ..)).2
  refine Go.nameL s.ls.fr mt ⟨_, fun i y => ∃ t, y = .str (SL (coded ((textsOf ds).getD i []))) t, _, iter1L hh lX, by rw [tl]; exact (by decide : 4 ≤ 100000), s, ?_, ?_⟩
  · intro i v g Lc mm hi e sg hns hm
    obtain ⟨t, rfl, mem⟩ := strs_getD ht e
    have f := texts_fine hd _ mem
    refine Go.callE (Go.nameG sg.T (v := .ref 88) (Go.cwF (fd := fnd 15 87 .none (.str (strOf 8) 523)) (Go.spE (Go.nameN hns hm (Go.spZ ⟨⟨sg.T.objs (88, _) (List.mem_of_getElem? (i := 6) rfl), rfl⟩, ?_⟩)))))
    exact coded_spec sg.T hroom hh _ _ (by omega) fun c hc => (f.1 c hc).1
  · intro h' U us s' hn hg
    refine r h' U us s' ?_
    have e2 : (List.range tv.toArray.size).map (fun i => SL (coded ((textsOf ds).getD i []))) = ((textsOf ds).map coded).map SL := by
      rw [tl, List.map_map]
      exact range_getD (fun n => SL (coded n)) [] (textsOf ds)
    exact e2 ▸ strsOf hn hg
theorem law7 {ds : List Int} {X : Addr} {tv : List Value} (hroom : A.depth + 1 < recursionLimit) (hu : A.units < 900000) (hh : A.handled = none) (hd : ds.length = 12) (s : LL h0 vd none m Ls h) (mX : (X, tv) ∈ Ls) (mt : m vTexts = some (.ref X)) (ht : StrsAre tv ((textsOf ds).map SL))
    (r : ∀ h' V vs, LL h0 vd (some (.ref V)) m ((V, vs) :: Ls) h' → StrsAre vs (((textsOf ds).map coded).map SL) → Go w A (execs ((bd 17).drop 7) (lawEnv h0.objs.size a q cd)) h' S) :
    Go w A (execs ((bd 17).drop 6) (lawEnv h0.objs.size a q cd)) h S := by
  have tl : tv.toArray.size = (textsOf ds).length := by rw [List.size_toArray, strs_len ht, List.length_map]
  refine Go.cons_eq rfl (Go.cons (goAssignC (c := h0.objs.size + 2) (goComp1 (cls := []) ?_ (by kernel_rfl) (by decide +kernel) (by kernel_rfl) (by kernel_rfl) (fun _ => by kernel_rfl) (fun _ => by kernel_rfl) (fun _ => by kernel_rfl)) (by kernel_rfl) (by kernel_rfl) (by kernel_rfl) (by kernel_rfl)))
  have lX := (s.li _ mX).2
  refine Go.nameL s.ls.fr mt ⟨_, fun i y => ∃ t, y = .str (SL (coded ((textsOf ds).getD i []))) t, _, iter1L hh lX, by rw [tl]; exact (by decide : 4 ≤ 100000), ?_, ?_⟩
  · intro i v g Lc mm hi e k hns hm
    have sg := s.kp k
    obtain ⟨t, rfl, mem⟩ := strs_getD ht e
    have f := texts_fine hd _ mem
    refine Go.callE (Go.nameG sg.T (v := .ref 60) (Go.cwF (fd := fnd 7 59 .none (.str (strOf 5) 471)) (Go.spE (Go.nameN hns hm (Go.spE (Go.cStr fun tu => Go.spZ ⟨⟨sg.T.objs (60, _) (List.mem_of_getElem? (i := 2) rfl), rfl⟩, ?_⟩))))))
    have := u8_len ((textsOf ds).getD i [])
    have en := encode_spec (w := w) sg.T hroom hu hh _ (fun c hc => (f.1 c hc).2) (by omega) (by omega) t (.str (Str.ofString "utf-8") tu)
    rw [encL_eq fun c hc => (f.1 c hc).1] at en
    exact en
  · intro h2 h' vs k2 k' hl hn hg
    have s' := (s.kp k').add ((s.kp k2).lt) hl
    refine ⟨none, s'.ls.ct, fun h3 c3 b3 => r h3 _ vs (s'.setT c3 b3) ?_⟩
    have e2 : (List.range tv.toArray.size).map (fun i => SL (coded ((textsOf ds).getD i []))) = ((textsOf ds).map coded).map SL := by
      rw [tl, List.map_map]
      exact range_getD (fun n => SL (coded n)) [] (textsOf ds)
    exact e2 ▸ strsOf hn hg
end
end Mine
end
section
open PySem PySem.W PyProof.Rows PySem.Calls
set_option Elab.async false
set_option maxRecDepth 100000
set_option linter.unusedVariables false
set_option maxHeartbeats 0
namespace Mine
theorem goAndT {w : World} {A : Around} {h : Heap} {pos : Pos} {x y : Sem Value} {rest : List (Sem Value)} {R : Value → Heap → Prop} (q : Go w A x h fun v h1 => v = .bool true ∧ Go w A (boolOp pos .And (y :: rest)) h1 R) : Go w A (boolOp pos .And (x :: y :: rest)) h R := by
  refine Go.bind (q.mono fun v h1 z => ?_)
  obtain ⟨rfl, z⟩ := z
  exact Go.bind (Go.standAt (Go.bind (Go.holding (Go.tBool z))))
theorem goEqL {w : World} {A : Around} {h : Heap} {l b : Addr} {xs ys : List Value} {R : Value → Heap → Prop} (hl : h.IsList l xs.toArray) (hb : h.IsList b ys.toArray) (hn : xs.length = ys.length) (hu : A.units < cLine)
    (he : ∀ (s : Shared) (j : Nat) (x y : Value), xs[j]? = some x → ys[j]? = some y → SeqAt.EqAt A.in1 s x y true) (r : R (.bool true) h) : Go w A (compareOp .Eq (.ref l) (.ref b)) h R := Go.lib fun g d k os =>
  SeqAt.eq_listAt (e := fun _ => true) hl hb (by simpa using hn) hu (fun j h1 h2 => he _ j _ _ (by simp) (by simp)) ⟨rfl, rfl, rfl, by
    have e : (List.range xs.toArray.size).all (fun _ => true) = true := by simp
    rw [e]; exact r⟩
theorem strs_at {vs : List Value} {ys : List Str} (i : StrsAre vs ys) : ∀ (k : Nat) (v : Value), vs[k]? = some v → ∃ t y, v = .str y t ∧ ys[k]? = some y := by
  induction i with
  | nil => intro k v e; simp at e
  | cons y t _ ih =>
    intro k v e
    cases k with
    | zero => exact ⟨t, y, by simpa using e.symm, rfl⟩
    | succ k => exact ih k v (by simpa using e)
theorem goEqStrs {w : World} {A : Around} {h : Heap} {l b : Addr} {xs ys : List Value} {zs : List Str} {R : Value → Heap → Prop} (hl : h.IsList l xs.toArray) (hb : h.IsList b ys.toArray) (hx : StrsAre xs zs) (hy : StrsAre ys zs) (hu : A.units < cLine) (r : R (.bool true) h) : Go w A (compareOp .Eq (.ref l) (.ref b)) h R := by
  refine goEqL hl hb ((strs_len hx).trans (strs_len hy).symm) hu (fun s j x y ex ey => ?_) r
  obtain ⟨t, z, rfl, ez⟩ := strs_at hx j x ex
  obtain ⟨u, z', rfl, ez'⟩ := strs_at hy j y ey
  rw [ez, Option.some.injEq] at ez'
  subst ez'
  have e : (z == z) = true := beq_iff_eq.mpr rfl
  have := (eqGives_str z z t u).at A.in1 s
  rw [e] at this
  exact this
/-- the coded texts, coded once more -/
def againOf (ds : List Int) : List (List Nat) := [coded (piecesOf ds true), coded (piecesOf ds false)]
section
variable {w : World} {A : Around} {h0 h : Heap} {vd vt : Option Value} {m : Str → Option Value} {a : Addr} {q : Str} {cd : Value} {S : Flow → Heap → Prop} {Ls : List (Addr × List Value)}
theorem law8 {ds : List Int} {V : Addr} {vs : List Value} (hh : A.handled = none) (s : LL h0 vd (some (.ref V)) m Ls h) (mV : (V, vs) ∈ Ls) (hv : StrsAre vs (((textsOf ds).map coded).map SL))
    (r : ∀ h' K ks, LL h0 vd (some (.ref V)) (upd m vKinds (.ref K)) ((K, ks) :: Ls) h' → ks.length = 4 → (∀ (j : Nat) (y : Value), ks[j]? = some y → y = .bool true) → Go w A (execs ((bd 17).drop 8) (lawEnv h0.objs.size a q cd)) h' S) :
    Go w A (execs ((bd 17).drop 7) (lawEnv h0.objs.size a q cd)) h S := by
  have tl : vs.toArray.size = 4 := by rw [List.size_toArray, strs_len hv, List.length_map, List.length_map]; rfl
  refine Go.cons_eq rfl (Go.cons (lawCompU (cls := []) (vd := vd) (vt := some (.ref V)) (m := m) (Ls := Ls) rfl ?_ (by kernel_rfl) (by decide +kernel) (by kernel_rfl) (by kernel_rfl) (fun _ => by kernel_rfl) (fun _ => by kernel_rfl) (fun _ => by kernel_rfl) (by kernel_rfl) (by kernel_rfl)))
  have lV := (s.li _ mV).2
  refine goNameC s.ls.ct ?_ (by kernel_rfl) (by kernel_rfl) (by kernel_rfl) (by decide +kernel)
  refine ⟨_, fun i y => y = .bool true, _, iter1L hh lV, by rw [tl]; decide, s, ?_, ?_⟩
  · intro i v g Lc mm hi e sg hns hm
    obtain ⟨t, rfl, mem⟩ := strs_getD hv e
    refine Go.callE (Go.nameB sg.T (v := .builtin "isinstance") (Go.cwB (Go.spE (Go.nameN hns hm (Go.spE (Go.nameB sg.T (v := .type "str") (Go.spZ (Go.lib fun g d k os => IsiPair.str_str ⟨rfl, rfl, rfl, Kp.rfl _, rfl⟩))))))))
  · intro h' K ks s' hn hg
    exact r h' K ks s' (hn.trans tl) hg
theorem law9 {ds : List Int} {V : Addr} {vs : List Value} (hroom : A.depth + 1 < recursionLimit) (hu : A.units < 900000) (hh : A.handled = none) (hd : ds.length = 12) (s : LL h0 vd (some (.ref V)) m Ls h) (mV : (V, vs) ∈ Ls) (hv : StrsAre vs (((textsOf ds).map coded).map SL))
    (r : ∀ h' G gs, LL h0 vd (some (.ref V)) (upd m vAgain (.ref G)) ((G, gs) :: Ls) h' → StrsAre gs ((againOf ds).map SL) → Go w A (execs ((bd 17).drop 9) (lawEnv h0.objs.size a q cd)) h' S) :
    Go w A (execs ((bd 17).drop 8) (lawEnv h0.objs.size a q cd)) h S := by
  have tl : vs.toArray.size = 4 := by rw [List.size_toArray, strs_len hv, List.length_map, List.length_map]; rfl
  refine Go.cons_eq rfl (Go.cons (lawCompU (cls := [(vTold, h0.objs.size + 2)]) (vd := vd) (vt := some (.ref V)) (m := m) (Ls := Ls) rfl ?_ (by kernel_rfl) (by decide +kernel) (by kernel_rfl) (by kernel_rfl) (fun _ => by kernel_rfl) (fun _ => by kernel_rfl) (fun _ => by kernel_rfl) (by kernel_rfl) (by kernel_rfl)))
  refine Go.listE (Go.spE (Go.cInt fun ta => Go.spE (Go.cInt fun tb => Go.spZ ⟨small 2 rfl (by decide), ?_⟩)))
  have sI := s.push { cls := .type "list", data := .seq [Value.int 1 ta, .int 3 tb].toArray }
  refine ⟨_, fun i y => ∃ t, y = .str (SL ((againOf ds).getD i [])) t, _, iter1L hh isNew, by exact (by decide : 2 ≤ 100000), sI, ?_, ?_⟩
  · intro i v g Lc mm hi e sg hns hm
    have lV := (sg.li _ mV).2
    have key : ∃ n tn, v = .int (n : Nat) tn ∧ n < 4 ∧ coded ((textsOf ds).getD n []) = (againOf ds).getD i [] ∧ Fine ((textsOf ds).getD n []) ∧ ((textsOf ds).getD n []).length ≤ 36 := by
      have p := pieces_fine ds true
      have q := pieces_fine ds false
      match i, hi, e with
      | 0, _, e => exact ⟨1, ta, by simpa using e.symm, by decide, rfl, p.1, by have := p.2; show (piecesOf ds true).length ≤ 36; omega⟩
      | 1, _, e => exact ⟨3, tb, by simpa using e.symm, by decide, rfl, q.1, by have := q.2; show (piecesOf ds false).length ≤ 36; omega⟩
    obtain ⟨n, tn, rfl, hn4, hco, hfi, hlen⟩ := key
    obtain ⟨v', ev⟩ : ∃ v', vs.toArray[n]? = some v' := ⟨_, Array.getElem?_eq_getElem (by rw [tl]; exact hn4)⟩
    have ec : ((textsOf ds).map coded).getD n [] = coded ((textsOf ds).getD n []) := by
      have : n < (textsOf ds).length := hn4
      simp [List.getD_eq_getElem?_getD, List.getElem?_eq_getElem this]
    obtain ⟨tv, rfl, _⟩ := strs_getD hv ev
    rw [ec] at ev
    show Go w A _ g fun y g' => Kp g g' ∧ ∃ t, y = Value.str (SL ((againOf ds).getD i [])) t
    rw [← hco]
    refine Go.callE (Go.nameG sg.T (v := .ref 60) (Go.cwF (o := fnO 7 59 .none (.str (strOf 5) 471)) (fd := fnd 7 59 .none (.str (strOf 5) 471)) (Go.spE ?_)))
    refine Go.sub (goNameC sg.ls.ct ?_ (by kernel_rfl) (by kernel_rfl) (by kernel_rfl) (by decide +kernel))
    refine Go.nameN hns hm ⟨"list", _, _, isList_ty lV, F.slot_list_getitem.lookup, rfl, Go.itemL lV (by omega) (by rw [Int.toNat_natCast]; exact ev) (by rw [tl, sizeLine_eq]; decide) (Go.noTemp ?_)⟩
    refine Go.spE (Go.cStr fun tu => Go.spZ ⟨⟨sg.T.objs (60, _) (List.mem_of_getElem? (i := 2) rfl), rfl⟩, ?_⟩)
    have f := coded_fine hfi
    have cl := coded_len ((textsOf ds).getD n [])
    have ul := u8_len (coded ((textsOf ds).getD n []))
    have en := encode_spec (w := w) sg.T hroom hu hh _ (fun c hc => (f c hc).2) (by omega) (by omega) tv (.str (Str.ofString "utf-8") tu)
    rw [coded_again fun c hc => (hfi c hc).1] at en
    exact en
  · intro h' G gs s' hn hg
    refine r h' G gs s' ?_
    have e2 : (List.range 2).map (fun i => SL ((againOf ds).getD i [])) = (againOf ds).map SL := range_getD (fun n => SL n) [] (againOf ds)
    exact e2 ▸ strsOf hn hg
theorem law10 (hroom : A.depth < recursionLimit) (hh : A.handled = none) (s : LL h0 vd vt m Ls h) (r : ∀ h', LL h0 vd vt (upd m vNothing .none) Ls h' → Go w A (execs ((bd 17).drop 10) (lawEnv h0.objs.size a q cd)) h' S) :
    Go w A (execs ((bd 17).drop 9) (lawEnv h0.objs.size a q cd)) h S := by
  refine Go.cons_eq rfl (Go.cons (Go.assign ?_))
  refine Go.callE (Go.nameG s.T (v := .ref 60) (Go.cwF (fd := fnd 7 59 .none (.str (strOf 5) 471)) (Go.spE (Go.cNone (Go.spE (Go.cStr fun tu => Go.spZ ⟨⟨s.T.objs (60, _) (List.mem_of_getElem? (i := 2) rfl), rfl⟩, ?_⟩))))))
  refine (encode_none s.T hroom hh _).mono fun v h1 y => ?_
  obtain ⟨k, rfl⟩ := y
  have s' := s.kp k
  exact ⟨_, _, s'.ls.fr, fun h2 F2 b2 => r h2 (s'.set F2 b2)⟩
theorem law11 {ds : List Int} {V U K G : Addr} {vs us ks gs : List Value} (hu : A.units < cLine) (s : LL h0 vd (some (.ref V)) m Ls h) (mV : (V, vs) ∈ Ls) (mU : (U, us) ∈ Ls) (mK : (K, ks) ∈ Ls) (mG : (G, gs) ∈ Ls)
    (m1 : m vNothing = some .none) (m2 : m vKinds = some (.ref K)) (m3 : m vDue = some (.ref U)) (m4 : m vAgain = some (.ref G))
    (hv : StrsAre vs (((textsOf ds).map coded).map SL)) (hu' : StrsAre us (((textsOf ds).map coded).map SL)) (hk : ks.length = 4) (hk' : ∀ (j : Nat) (y : Value), ks[j]? = some y → y = .bool true) (hg : StrsAre gs ((againOf ds).map SL))
    (r : ∀ h', LL h0 vd (some (.ref V)) m Ls h' → S (.ret (.bool true)) h') :
    Go w A (execs ((bd 17).drop 10) (lawEnv h0.objs.size a q cd)) h S := by
  refine Go.cons_eq rfl (Go.cons (Go.return_ ?_))
  rw [arm_eval_BoolOp]
  refine goAndT ?_
  refine Go.compare (Go.nameL s.ls.fr m1 (Go.cNone (Go.eq is_none_none (Go.pure ⟨rfl, ?_⟩))))
  refine goAndT (Go.compare (Go.nameL s.ls.fr m2 (Go.listE (Go.spE (Go.cBool (Go.spE (Go.cBool (Go.spE (Go.cBool (Go.spE (Go.cBool (Go.spZ ⟨small 4 rfl (by decide), ?_⟩))))))))))))
  have sK := s.push { cls := .type "list", data := .seq [Value.bool true, .bool true, .bool true, .bool true].toArray }
  refine goEqL (sK.li _ mK).2 isNew hk hu ?_ ⟨rfl, ?_⟩
  · intro sh j x y ex ey
    rw [hk' j x ex]
    have ey : y = .bool true := by
      match j, ey with
      | 0, ey => simpa using ey.symm
      | 1, ey => simpa using ey.symm
      | 2, ey => simpa using ey.symm
      | 3, ey => simpa using ey.symm
    rw [ey]
    exact SeqAt.EqAt.bool_bool true true
  refine goAndT (Go.compare (goNameC sK.ls.ct ?_ (by kernel_rfl) (by kernel_rfl) (by kernel_rfl) (by decide +kernel)))
  refine Go.nameL sK.ls.fr m3 (goEqStrs (sK.li _ mV).2 (sK.li _ mU).2 hv hu' hu ⟨rfl, ?_⟩)
  show Go w A (eval _ _) _ _
  have lU := (sK.li _ mU).2
  have tl : us.toArray.size = 4 := by rw [List.size_toArray, strs_len hu', List.length_map, List.length_map]; rfl
  obtain ⟨v1, e1⟩ : ∃ v', us.toArray[1]? = some v' := ⟨_, Array.getElem?_eq_getElem (by rw [tl]; decide)⟩
  obtain ⟨v3, e3⟩ : ∃ v', us.toArray[3]? = some v' := ⟨_, Array.getElem?_eq_getElem (by rw [tl]; decide)⟩
  obtain ⟨t1, rfl, _⟩ := strs_getD hu' e1
  obtain ⟨t3, rfl, _⟩ := strs_getD hu' e3
  refine Go.compare (Go.nameL sK.ls.fr m4 (Go.listE (Go.spE ?_)))
  refine Go.sub (Go.nameL sK.ls.fr m3 (Go.cInt fun ta => ⟨"list", _, _, isList_ty lU, F.slot_list_getitem.lookup, rfl, Go.itemL lU (by decide) e1 (by rw [tl, sizeLine_eq]; decide) (Go.noTemp ?_)⟩))
  refine Go.spE (Go.sub (Go.nameL sK.ls.fr m3 (Go.cInt fun tb => ⟨"list", _, _, isList_ty lU, F.slot_list_getitem.lookup, rfl, Go.itemL lU (by decide) e3 (by rw [tl, sizeLine_eq]; decide) (Go.noTemp ?_)⟩)))
  refine Go.spZ ⟨small 2 rfl (by decide), ?_⟩
  have sZ := sK.push { cls := .type "list", data := .seq [Value.str (SL (((textsOf ds).map coded).getD 1 [])) t1, .str (SL (((textsOf ds).map coded).getD 3 [])) t3].toArray }
  refine goEqStrs (sZ.li _ mG).2 isNew hg ?_ hu (r _ sZ)
  exact .cons _ _ (.cons _ _ .nil)
end
end Mine
end
section
open PySem PySem.W PyProof.Rows PySem.Calls
set_option Elab.async false
set_option maxRecDepth 100000
set_option linter.unusedVariables false
set_option maxHeartbeats 0
namespace Mine
def lawName : Str := match PW.main.body[(17 : Nat)]? with | some (.FunctionDef name ..) => name | _ => Str.empty
def lawParams : Arguments := match PW.main.body[(17 : Nat)]? with | some (.FunctionDef _ params ..) => params | _ => { posonlyargs := [], args := [], vararg := none, kwonlyargs := [], kw_defaults := [], kwarg := none, defaults := [] }
def lawFd (pm cd doc dV kV : Value) : FuncData :=
  { name := lawName, qualname := lawName, params := lawParams, body := .stmts (bd 17), scope := lawScope, globals := mainGlobals, closure := [], defaults := dV, kwdefaults := kV, doc, pyModule := pm, code := cd, builtins := builtinsNs }
section
variable {w : World} {A : Around} {h : Heap}
theorem law_spec {a l : Addr} {o : Obj} {pm cd doc kV : Value} {vs : List Value} {ns : List Int} (T : TF h) (hroom : A.depth + 2 < recursionLimit) (hh : A.handled = none) (hlim : h.NoLimit) (ho : h.get? a = some o) (hdata : o.data = .func (lawFd pm cd doc .none kV)) (hcd : h.CodeRec cd lawName)
    (hu : (A.deeper (callEnvC (lawFd pm cd doc .none kV) h.objs.size a)).units < cLine) (hdep : (A.deeper (callEnvC (lawFd pm cd doc .none kV) h.objs.size a)).depth + 1 < recursionLimit) (hhd : (A.deeper (callEnvC (lawFd pm cd doc .none kV) h.objs.size a)).handled = none)
    (hl : h.IsList l vs.toArray) (hi : IntsAre vs ns) (hz : vs.length ≤ 1000000) : Go w A (PySem.call (.ref a) [.ref l] []) h fun v h' => v = .bool true ∧ Kp h h' := by
  refine goEnterC (body := bd 17) (binds := [(vScript, .ref l)]) (by omega) ho hdata hlim hcd rfl (by kernel_rfl) rfl ?_ ?_ (by kernel_rfl) (by kernel_rfl) (by kernel_rfl)
  · intro x hx
    rw [List.mem_singleton.mp hx]
    exact .inl (by kernel_rfl)
  intro h₁ F hc
  generalize hA : A.deeper (callEnvC (lawFd pm cd doc .none kV) h.objs.size a) = B at hu hdep hhd ⊢
  have s : LS h none none (bindL (callEnvC (lawFd pm cd doc .none kV) h.objs.size a).kindOf [(vScript, .ref l)] fun _ => none) h₁ := ⟨F, hc vDraws _ (by kernel_rfl), hc vTold _ (by kernel_rfl), T⟩
  have hcl : cLine ≤ 900000 := by decide +kernel
  show Go w B (execs (bd 17) (lawEnv h.objs.size a (lawName ++ ".<locals>.") cd)) h₁ _
  refine law1 (by omega) s (by kernel_rfl) (isL_kp hl F.keep) hi hz fun h2 D ws s2 lt2 l2 i2 => ?_
  have d12 := draws_len ns
  have S2 : LL h (some (.ref D)) none _ [(D, ws)] h2 := ⟨s2, fun p q => by rw [List.mem_singleton.mp q]; exact ⟨lt2, l2⟩⟩
  refine law2 hhd S2 i2 d12 fun h3 t1 s3 => ?_
  refine law3 (by omega) hhd s3 i2 d12 fun h4 t2 s4 => ?_
  refine law4 (by omega) hhd s4 i2 d12 fun h5 t3 s5 => ?_
  refine law5 (t1 := t1) (t2 := t2) (t3 := t3) d12 s5 (by kernel_rfl) (by kernel_rfl) (by kernel_rfl) fun h6 X tv s6 st => ?_
  refine law6 hdep hhd d12 s6 (by kernel_rfl) st fun h7 U us s7 su => ?_
  refine law7 hdep (by omega) hhd d12 s7 (List.mem_cons_of_mem _ (List.mem_cons_self ..)) (by kernel_rfl) st fun h8 V vs' s8 sv => ?_
  refine law8 hhd s8 (List.mem_cons_self ..) sv fun h9 K ks s9 kl kt => ?_
  refine law9 hdep (by omega) hhd d12 s9 (List.mem_cons_of_mem _ (List.mem_cons_self ..)) sv fun h10 G gs s10 sg => ?_
  refine law10 (by omega) hhd s10 fun h11 s11 => ?_
  refine law11 hu s11 (V := V) (U := U) (K := K) (G := G) (vs := vs') (us := us) (ks := ks) (gs := gs) (by simp) (by simp) (by simp) (by simp) (by kernel_rfl) (by kernel_rfl) (by kernel_rfl) (by kernel_rfl) sv su kl kt sg fun h12 s12 => ?_
  exact ⟨rfl, s12.ls.fr.keep⟩
end
end Mine
end
section
open PySem PySem.W PyProof.Rows PySem.Calls
set_option Elab.async false
set_option maxRecDepth 100000
set_option linter.unusedVariables false
namespace Mine
/-! the end, at the one context that the claim's thread has: nothing lies below the caller -/
theorem wpG_caller {prog : Program} {w : World} {t : Sem Fin} {R : Result → Shared → Prop} {s : Shared} (h : wpG (model prog w) callerA t (fun fin s' => ∃ f, fin = .done f ∧ R (.ok f) s') (fun e s' => R (.error e) s') s) :
    Sem.wp (model prog w) ⟨.builtin "claim.caller" {}, none, none, [], none⟩ t (Sem.finPost (model prog w) ⟨.builtin "claim.caller" {}, none, none, [], none⟩ R) (fun e _ s' => R (.error e) s') default s :=
  Sem.wp_mono _ _ t (fun fin p s' ⟨f, e, y⟩ => by subst e; exact y) (fun _ _ _ y => y) _ s (h _ default caller_in fun _ => ⟨by decide +kernel, fun x hx => nomatch hx⟩)
theorem callFromG {c : ClaimW} {tree : List Value → Sem Fin} {w : World} {s : Shared} {free : Addr → Prop} {gens : Prop} {kept : Heap → Prop} (hz : s.asleep) (hgens : s.gens = #[])
    (spec : ∀ args, c.pre args = true → WData.layableAll args = true → ∀ ord : List DictEntry → List DictEntry, (∀ l, (ord l).Perm l) → ∃ vs s₁, layAllW c.records (classAt s.heap) w.params ord args s = some (vs, s₁) ∧
      wpG (model c.prog w) callerA (tree vs) (fun fin s' => ∃ f, fin = .done f ∧ (c.Ends s args vs s₁ (.ok f) s' ∧ s'.os = s.os ∧ AllBare s'.gens ∧ kept s'.heap)) (fun e s' => c.Ends s args vs s₁ (.error e) s' ∧ s'.os = s.os ∧ AllBare s'.gens ∧ kept s'.heap) s₁) :
    c.CallFrom (fun vs => ⟨tree vs, .builtin "claim.caller" {}, default, []⟩) w free gens kept s := by
  intro args hpre hlay ord hord
  obtain ⟨vs, s₁, hlaid, hcode⟩ := spec args hpre hlay ord hord
  have rest := layAllW_rest _ _ _ hlaid
  have raw := wpG_caller (R := fun r s' => (c.Ends s args vs s₁ r s' ∧ s'.os = s.os ∧ kept s'.heap) ∧ leftWithCleanup s'.gens = false) (wpG_mono hcode (fun fin s' ⟨f, e, a, b, g, k⟩ => ⟨f, e, ⟨a, b, k⟩, leftWithCleanup_false_of_bare g⟩) fun e s' ⟨a, b, g, k⟩ => ⟨⟨a, b, k⟩, leftWithCleanup_false_of_bare g⟩)
  obtain ⟨k, r, s'', s', hsched, hrun, hfo, hcase, hos, hkp⟩ := wp_halts_full (M := model c.prog w) (R := fun r s' => c.Ends s args vs s₁ r s' ∧ s'.os = s.os ∧ kept s'.heap) (Shared.asleep_of_life rest.2.2.2 hz) raw
  obtain ⟨eh, _, _, eo, _⟩ := Shared.forget_eq hfo
  have hends : c.Ends s args vs s₁ r s' := hcase.congr eh
  have hkept : kept s'.heap := by rw [eh]; exact hkp
  rw [← eo] at hos
  have hlife : s'.heap.life = s.heap.life := (runN_life _ _ _ hrun).trans rest.2.2.2
  refine ⟨vs, s₁, hlaid, k, _, s', hsched, ?_, (fun _ i x hx => by rw [hgens] at hx; simp at hx), hkept, by rw [hlife], Shared.rest_eq hos⟩
  rcases hends with ⟨v, rfl, d1, d2, d3, d4, d5⟩ | ⟨e, ob, cls, rfl, d1, d2, d3, d4, d5⟩
  · exact .inl ⟨v, rfl, d1, d2, d3, fun b o y _ => d4 b o y, d5⟩
  · exact .inr ⟨e, ob, cls, rfl, d1, d2, d3, d4, fun b o y _ => d5 b o y⟩
abbrev treeOf (r : OpenRow) (vs : List Value) : Sem Fin := do
  match ← nsGet mainNs r.name with
  | some f => do PySem.ret (← PySem.call f vs)
  | none => unsupported "claim.caller:no-such-global"
theorem tree_call {r : OpenRow} {vs : List Value} {w : World} {s : Shared} {mg : Str → Option Value} {f : Value} {Q : Fin → Shared → Prop} {E : Value → Shared → Prop} (hg : s.heap.Ns mainGlobals mg) (hf : mg r.name = some f)
    (x : wpG (model r.prog w) callerA (PySem.call f vs) (fun v s' => Q (.done (.ret v)) s') E s) : wpG (model r.prog w) callerA (treeOf r vs) Q E s := fun Γ p i c => by
  unfold treeOf
  rw [Sem.wp_bind']
  have get : wpAny (model r.prog w) callerA (nsGet mainNs r.name) (fun o s' => o = some f ∧ s' = s) (fun _ _ => False) s := wpAny_nsGet hg ⟨hf, rfl⟩
  refine Sem.wp_mono _ Γ _ (fun o p' s' y => ?_) (fun _ _ _ z => z.elim) p s (get Γ p i)
  obtain ⟨rfl, rfl⟩ := y
  show Sem.wp _ Γ (PySem.call f vs >>= fun v => PySem.ret v) _ _ p' s'
  rw [Sem.wp_bind']
  exact Sem.wp_mono _ Γ _ (fun v p'' s'' z => z) (fun _ _ _ z => z) p' s' (x Γ p' i c)
theorem holdsG {r : OpenRow} {q : Program} {loose : List Str} {Xt : Shared → Bool} {d : DefRec} {kwd : List (Str × Expr)} {N : Nat} (left : LeftO r.prog q loose Xt (fun s => TF s.heap) (fun _ => True) N)
    (hdef : defOf q r.name = some (d, kwd)) (hp : r.prog.theDef r.name = some (d.params, d.body, d.scope)) (hk : kwWritten? d.params.kwonlyargs d.params.kw_defaults = some kwd) (hRf : ∀ s, Xt s = true → RecFacts r.records s.heap) (hwr : (!r.writes || r.records.isEmpty) = true)
    (k1 : r.wellSaid = true) (ok : (chainsOk q && opensWell r.prog && (frees r.toRowW && r.within.isEmpty)) = true) (hb : r.prog.bare) (hw : r.toRowW.promised)
    (call : ∀ (w : World) (s₀ s₁ : Shared) (mg mb : Str → Option Value), Ground q loose r.records (fun _ _ => True) w s₀ mg mb s₁.heap → TF s₁.heap → ∀ (args : List WData) (vs : List Value) (as : List Addr), r.claim.pre args = true → WData.layableAll args = true → Laid r.records w s₀ s₁ args vs as → sysModules < s₀.heap.objs.size →
      ∃ f, mg r.name = some f ∧ wpG (model r.prog w) callerA (PySem.call f vs) (fun v s' => GoodWG r.claim (classAt s₀.heap) (ExcName.means s₀.heap) args s₁ (.ok (.ret v)) s') (fun e s' => GoodWG r.claim (classAt s₀.heap) (ExcName.means s₀.heap) args s₁ (.error e) s') s₁) : r.Holds := by
  obtain ⟨ok1, ok2⟩ := Bool.and_eq_true_iff.mp ok
  obtain ⟨hch, o1⟩ := Bool.and_eq_true_iff.mp ok1
  obtain ⟨k5, k6⟩ := Bool.and_eq_true_iff.mp ok2
  obtain ⟨hsame, hu, ha, hap, hm⟩ := frees_parts k5
  have hwi : r.claim.within = [] := List.isEmpty_iff.mp k6
  have hi := ident_freeW hu ha hap
  refine ⟨k1, hw, ⟨hb, o1, by show r.makers.map _ = []; rw [hm]; rfl⟩, hw.witness, fun w => ⟨(left.behind (XP := fun _ h => True ∧ RecFacts r.records h) (fun s hs => ⟨trivial, hRf s hs⟩) hch w).1, fun s' hs' => ?_⟩⟩
  obtain ⟨s₀, hf, hg0, s, hT, hz, hgens, hg, G00, y⟩ := (left.behind (XP := fun _ h => True ∧ RecFacts r.records h) (fun s hs => ⟨trivial, hRf s hs⟩) hch w).2 s' hs'
  have G0 : Ground q loose [] (fun _ _ => True) w s (s.heap.nsMap mainGlobals) (s.heap.nsMap builtinsNs) s.heap := ⟨G00.T, G00.B, G00.D, G00.TE, G00.TD, G00.W, trivial, G00.cls, G00.has, G00.apart, G00.once, G00.K⟩
  have RF := G00.X.2
  refine ⟨s₀, hf, hg0, s, hT, fun n hn => ?_, RF.1, RF.2.1, ?_⟩
  · obtain rfl : n = r.name := by split at hn <;> simp_all
    exact pinned_of_view hg G0 hdef hp hk
  have hgens : s.gens = #[] := Array.eq_empty_of_size_eq_zero (beq_iff_eq.mp hgens)
  have G : Ground q loose r.records (fun _ _ => True) w s _ _ s.heap := RF.ground G0
  refine callFromG (c := r.claim) hz hgens fun args hpre hlay ord hord => ?_
  obtain ⟨⟨vs, s₁⟩, hlaid⟩ := Option.isSome_iff_exists.mp (layAllW_isSome (P := w.params) (ord := ord) G.has args r.args s (pre_splitW hpre).1)
  have keeps := layAllW_keeps _ _ _ hlaid
  have hal := layAllW_rest _ _ _ hlaid
  obtain ⟨as, hrd, hin, hold⟩ := reads_layAllW hord _ _ _ hlaid hlay s₁.heap (fun _ _ e => e)
  have L : Laid r.records w s s₁ args vs as := ⟨⟨ord, hord, hlaid⟩, hrd, hin, hold, keeps, hal.1.trans hgens, hal.2.2.1⟩
  have G₁ := G.keeps (fun _ _ _ _ _ => trivial) keeps
  obtain ⟨f, hf, x⟩ := call w s s₁ _ _ G₁ ((of_eq_true y).keeps keeps) args vs as hpre hlay L G.low
  refine ⟨vs, s₁, hlaid, tree_call G₁.T.g hf (wpG_mono x (fun v s' g => ⟨_, rfl, ?_⟩) fun e s' g => ?_)⟩
  · have z := g.laid (c := r.claim) hsame hwi hi L
    exact ⟨z.1, z.2.1, z.2.2, fun q => ⟨namesKept_of hT hg _ keeps g.2.1.old, noTable hwr q⟩⟩
  · have z := g.laid (c := r.claim) hsame hwi hi L
    exact ⟨z.1, z.2.1, z.2.2, fun q => ⟨namesKept_of hT hg _ keeps g.2.1.old, noTable hwr q⟩⟩
end Mine
end
section
open PySem PySem.W PyProof.Rows PySem.Calls
set_option Elab.async false
set_option maxRecDepth 100000
set_option linter.unusedVariables false
namespace Mine
theorem final2 (hc : ∀ (w : World) (s₀ s₁ : Shared) (mg mb : Str → Option Value), Ground vq vl PySem.Challenge.rw_ew5028_01.row.records (fun _ _ => True) w s₀ mg mb s₁.heap → TF s₁.heap → ∀ (args : List WData) (vs : List Value) (as : List Addr), PySem.Challenge.rw_ew5028_01.row.claim.pre args = true → WData.layableAll args = true → Laid PySem.Challenge.rw_ew5028_01.row.records w s₀ s₁ args vs as → sysModules < s₀.heap.objs.size →
      ∃ f, mg PySem.Challenge.rw_ew5028_01.row.name = some f ∧ wpG (model PySem.Challenge.rw_ew5028_01.row.prog w) callerA (PySem.call f vs) (fun v s' => GoodWG PySem.Challenge.rw_ew5028_01.row.claim (classAt s₀.heap) (ExcName.means s₀.heap) args s₁ (.ok (.ret v)) s') (fun e s' => GoodWG PySem.Challenge.rw_ew5028_01.row.claim (classAt s₀.heap) (ExcName.means s₀.heap) args s₁ (.error e) s') s₁) : PySem.Challenge.rw_ew5028_01.Holds := by
  o_law
  refine holdsG (q := vq) (loose := vl) (Xt := vX) (N := 12000) left (by rfl) (by rfl) (by rfl) (fun s e => recFacts_of e) (by rfl) (by first | assumption | decide +kernel) (by decide +kernel) ⟨rfl, rfl, rfl, rfl, rfl, by decide +kernel⟩ ?hw hc
  w_witness2
end Mine
end
section
open PySem PySem.W PyProof.Rows PySem.Calls
set_option Elab.async false
set_option maxRecDepth 100000
set_option linter.unusedVariables false
set_option maxHeartbeats 0
namespace Mine
theorem has_list {R : WRecords} {d : WData} (x : WShape.has R d (.list .int) = true) : ∃ xs, d = .list xs ∧ WShape.hasItems R xs .int = true := by
  cases d <;> simp [WShape.has, WShape.arms] at x
  exact ⟨_, rfl, x⟩
theorem has_int {R : WRecords} {d : WData} (x : WShape.has R d .int = true) : ∃ n, d = .int n := by
  cases d <;> simp [WShape.has, WShape.arms] at x
  exact ⟨_, rfl⟩
theorem has_items {R : WRecords} : ∀ {xs : List WData}, WShape.hasItems R xs .int = true → ∃ ns : List Int, xs = ns.map WData.int
  | [], _ => ⟨[], rfl⟩
  | d :: r, x => by
    rw [WShape.hasItems, Bool.and_eq_true] at x
    obtain ⟨n, rfl⟩ := has_int x.1
    obtain ⟨ns, rfl⟩ := has_items x.2
    exact ⟨n :: ns, rfl⟩
theorem reads_ints {R : WRecords} {cl : Str → Option Addr} {h : Heap} : ∀ {ns : List Int} {vs : List Value} {as : List Addr}, ReadsAllW R cl h vs (ns.map WData.int) as → IntsAre vs ns
  | [], vs, as, x => by cases x; exact .nil
  | n :: ns, vs, as, x => by
    cases x with
    | cons a b =>
      cases a
      exact .cons _ _ (reads_ints b)
theorem pre63 {R : WRecords} {xs : List WData} (x : WTm.holds R (.and (.not (.lt (.lit (.int 63)) (.len (.arg 0)))) (.lit (.bool true))) { args := [.list xs] } = true) : xs.length ≤ 63 := by
  have v : WTm.value R (.and (.not (.lt (.lit (.int 63)) (.len (.arg 0)))) (.lit (.bool true))) { args := [.list xs] } = some (.bool (!decide ((63 : Int) < xs.length))) := by
    show (match some (WData.bool (!decide ((63 : Int) < xs.length))) with | some (.bool false) => some (WData.bool false) | some (.bool true) => _ | _ => _) = _
    cases decide ((63 : Int) < xs.length) <;> rfl
  rw [holdsW_of_value v, Bool.not_eq_true', decide_eq_false_iff_not] at x
  omega
def lawD : DefRec := match PW.main.body[(17 : Nat)]? with | some (.FunctionDef name params body _ _ _ scope _ _ pos) => ⟨name, params, body, scope, pos⟩ | _ => ⟨Str.empty, lawParams, [], lawScope, default⟩
theorem law_def : defOf vq PySem.Challenge.rw_ew5028_01.row.name = some (lawD, []) := by kernel_rfl
theorem law_data (pm cd doc dV kV : Value) : ({ docDef lawD.name lawD.params lawD.body lawD.scope pm cd doc with defaults := dV, kwdefaults := kV } : FuncData) = lawFd pm cd doc dV kV := by kernel_rfl
theorem law_nm : lawD.name = lawName := by kernel_rfl
theorem law_nodef : lawD.params.defaults = [] := by kernel_rfl
theorem hasAll_nil {R : WRecords} {ds : List WData} (x : WShape.hasAll R ds [] = true) : ds = [] := by
  cases ds with
  | nil => rfl
  | cons d r => simp [WShape.hasAll] at x
theorem post_true {R : WRecords} {args ds : List WData} : (WShape.has R (.bool true) .bool && WTm.holds R (.eq .res (.lit (.bool true))) { args := args, res := some (.bool true), after := ds }) = true := by
  rw [Bool.and_eq_true]
  refine ⟨by simp [WShape.has, WShape.arms], ?_⟩
  have e : WTm.value R (.eq .res (.lit (.bool true))) { args := args, res := some (.bool true), after := ds } = some (.bool (W.same (.bool true) (.bool true))) := rfl
  rw [holdsW_of_value e]
  decide +kernel
theorem law_hc (w : World) (s₀ s₁ : Shared) (mg mb : Str → Option Value) (G : Ground vq vl PySem.Challenge.rw_ew5028_01.row.records (fun _ _ => True) w s₀ mg mb s₁.heap) (T : TF s₁.heap) (args : List WData) (vs : List Value) (as : List Addr) (hpre : PySem.Challenge.rw_ew5028_01.row.claim.pre args = true) (hlay : WData.layableAll args = true)
    (L : Laid PySem.Challenge.rw_ew5028_01.row.records w s₀ s₁ args vs as) (hsys : sysModules < s₀.heap.objs.size) :
      ∃ f, mg PySem.Challenge.rw_ew5028_01.row.name = some f ∧ wpG (model PySem.Challenge.rw_ew5028_01.row.prog w) callerA (PySem.call f vs) (fun v s' => GoodWG PySem.Challenge.rw_ew5028_01.row.claim (classAt s₀.heap) (ExcName.means s₀.heap) args s₁ (.ok (.ret v)) s') (fun e s' => GoodWG PySem.Challenge.rw_ew5028_01.row.claim (classAt s₀.heap) (ExcName.means s₀.heap) args s₁ (.error e) s') s₁ := by
  obtain ⟨a, o, pm, cd, doc, dV, kV, h1, h2, h3, h4, h5⟩ := G.fn law_def
  have dv := Dflts.pos_none h5 law_nodef
  subst dv
  refine ⟨.ref a, h1, ?_⟩
  obtain ⟨p1, p2⟩ := pre_splitW hpre
  have p1 : WShape.hasAll [] args [.list .int] = true := p1
  obtain ⟨d, rst, rfl, q1, q2⟩ := hasAllW_cons p1
  have q2 := hasAll_nil q2
  subst q2
  obtain ⟨xs, rfl, q3⟩ := has_list q1
  obtain ⟨ns, rfl⟩ := has_items q3
  have hlen : (ns.map WData.int).length ≤ 63 := pre63 p2
  have hg := L.gens
  have hrd := L.reads
  obtain ⟨h, g, dr, k, os⟩ := s₁
  cases hrd with
  | cons ha hb =>
    cases hb
    cases ha with
    | list e1 e2 e3 e4 =>
      rename_i l ol vs' n bs
      have hl : h.IsList l vs'.toList.toArray := ⟨ol, e1, by simpa using e2, n, by simpa using e3⟩
      have hi := reads_ints e4
      have hz := ints_len hi
      rw [List.length_map] at hlen
      rw [law_data] at h3
      rw [law_nm] at h4
      refine Go.wp (law_spec (w := w) (A := callerA) T (by decide +kernel) rfl T.lim h2 h3 h4 ?_ ?_ rfl hl hi (by omega)) fun v h' k' y => ?_
      · exact (by decide +kernel : callerA.units + 3 < cLine)
      · exact (by decide +kernel : callerA.depth + 1 + 1 < recursionLimit)
      · obtain ⟨rfl, kp⟩ := y
        refine ⟨.inl ⟨.bool true, .bool true, _, rfl, fun _ => rfl, .bool true, post_true, fun _ => ⟨List.nodup_nil, fun _ q => by simp at q⟩⟩, OldK.of_keep kp, rfl, .of_eq hg⟩
theorem law_holds : PySem.Challenge.rw_ew5028_01.Holds := final2 law_hc
end Mine
end
set_option maxRecDepth 100000 in
theorem PySem.Challenge.cw_ew5028_01_holds : PySem.Challenge.rw_ew5028_01.Holds := by
  exact Mine.law_holds

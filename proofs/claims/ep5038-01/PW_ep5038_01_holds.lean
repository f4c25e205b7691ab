import PyProof.Rows.All
import Wide.All
import OpenK.AllK
import Wide.FinOn
import PySem.Challenge.RW_ep5038_01

section
open PySem PySem.W PyProof.Rows
set_option Elab.async false
set_option maxRecDepth 100000
set_option maxHeartbeats 8000000
namespace Mine
open_top hd for PySem.Challenge.rw_ep5038_01
end Mine
end

section
open PySem
set_option Elab.async false
set_option maxRecDepth 100000
namespace Mine

/-- strictly rising -/
def Ris (xs : List Nat) : Prop := xs.Pairwise (· < ·)

theorem below_go (xs : Array Nat) (hr : Ris xs.toList) (j : Nat) : ∀ (fuel lo hi : Nat), lo ≤ hi → hi ≤ xs.size → hi - lo ≤ fuel →
    (∀ k, k < lo → xs.getD k 0 < j) → (∀ k, hi ≤ k → k < xs.size → j ≤ xs.getD k 0) →
    let i := SetTable.below.go xs j fuel lo hi
    i ≤ xs.size ∧ (∀ k, k < i → xs.getD k 0 < j) ∧ ∀ k, i ≤ k → k < xs.size → j ≤ xs.getD k 0 := by
  have mono : ∀ a b, a < b → b < xs.size → xs.getD a 0 < xs.getD b 0 := by
    intro a b hab hb
    have := List.pairwise_iff_getElem.mp hr a b (by simpa using Nat.lt_trans hab hb) (by simpa using hb) hab
    simp [Array.getD, hb, Nat.lt_trans hab hb]
    simpa using this
  intro fuel
  induction fuel with
  | zero =>
    intro lo hi h1 h2 h3 h4 h5
    have : lo = hi := by omega
    subst this
    simp only [SetTable.below.go]
    exact ⟨h2, h4, h5⟩
  | succ n ih =>
    intro lo hi h1 h2 h3 h4 h5
    simp only [SetTable.below.go]
    split
    · rename_i hlt
      have e0 : xs.getD ((lo + hi) / 2) j = xs.getD ((lo + hi) / 2) 0 := by
        have hm : (lo + hi) / 2 < xs.size := by omega
        simp [Array.getD, hm]
      rw [e0]
      split
      · rename_i hm
        refine ih _ _ (by omega) h2 (by omega) (fun k hk => ?_) h5
        rcases Nat.lt_or_ge k ((lo + hi) / 2) with q | q
        · exact Nat.lt_trans (mono k _ q (by omega)) hm
        · have : k = (lo + hi) / 2 := by omega
          subst this; exact hm
      · rename_i hm
        refine ih _ _ (by omega) (by omega) (by omega) h4 (fun k hk hks => ?_)
        rcases Nat.lt_or_ge ((lo + hi) / 2) k with q | q
        · exact Nat.le_of_lt (Nat.lt_of_le_of_lt (Nat.le_of_not_lt hm) (mono _ k q hks))
        · have : k = (lo + hi) / 2 := by omega
          subst this; exact Nat.le_of_not_lt hm
    · have : lo = hi := by omega
      subst this
      exact ⟨h2, h4, h5⟩

theorem below_spec (xs : Array Nat) (hr : Ris xs.toList) (j : Nat) :
    SetTable.below xs j ≤ xs.size ∧ (∀ k, k < SetTable.below xs j → xs.getD k 0 < j) ∧ ∀ k, SetTable.below xs j ≤ k → k < xs.size → j ≤ xs.getD k 0 :=
  below_go xs hr j xs.size 0 xs.size (Nat.zero_le _) (Nat.le_refl _) (by omega) (fun k hk => absurd hk (Nat.not_lt_zero k)) fun k h1 h2 => absurd h2 (by omega)

theorem insertAt_list {α : Type} (xs : Array α) (p : Nat) (x : α) : (SetTable.insertAt xs p x).toList = xs.toList.take p ++ x :: xs.toList.drop p := SetTable.toList_insertAt xs p x

theorem ris_insert (xs : Array Nat) (hr : Ris xs.toList) (j : Nat) (hj : j ∉ xs.toList) : Ris (SetTable.insertAt xs (SetTable.below xs j) j).toList := by
  obtain ⟨h1, h2, h3⟩ := below_spec xs hr j
  rw [insertAt_list]
  generalize SetTable.below xs j = p at *
  unfold Ris at *
  rw [List.pairwise_append]
  refine ⟨hr.sublist (List.take_sublist _ _), ?_, ?_⟩
  · rw [List.pairwise_cons]
    refine ⟨fun y hy => ?_, hr.sublist (List.drop_sublist _ _)⟩
    obtain ⟨i, hi, rfl⟩ := List.mem_iff_getElem.mp hy
    rw [List.length_drop] at hi
    rw [List.getElem_drop]
    have hlt : p + i < xs.size := by simp at hi; omega
    have := h3 (p + i) (by omega) hlt
    have e : xs.getD (p + i) 0 = xs.toList[p + i]'(by simpa using hlt) := by simp [Array.getD, hlt]
    rw [e] at this
    rcases Nat.lt_or_eq_of_le this with q | q
    · exact q
    · exact absurd (q ▸ List.getElem_mem _) hj
  · intro a ha b hb
    obtain ⟨i, hi, rfl⟩ := List.mem_iff_getElem.mp ha
    rw [List.length_take] at hi
    rw [List.getElem_take]
    have hlt : i < xs.size := by simp at hi; omega
    have hip : i < p := by omega
    have := h2 i hip
    have e : xs.getD i 0 = xs.toList[i]'(by simpa using hlt) := by simp [Array.getD, hlt]
    rw [e] at this
    rcases List.mem_cons.mp hb with rfl | hb
    · exact this
    · obtain ⟨k, hk, rfl⟩ := List.mem_iff_getElem.mp hb
      rw [List.length_drop] at hk
      rw [List.getElem_drop]
      exact List.pairwise_iff_getElem.mp hr i (p + k) (by simpa using hlt) (by simp at hk ⊢; omega) (by omega)

/-- pigeonhole -/
theorem all_below {m : Nat} : ∀ {l : List Nat}, (∀ j, j < m → j ∈ l) → m ≤ l.length := by
  induction m with
  | zero => intro l _; exact Nat.zero_le _
  | succ m ih =>
    intro l h
    have hm := h m (Nat.lt_succ_self m)
    have := ih (l := l.erase m) (fun j hj => (List.mem_erase_of_ne (by omega)).mpr (h j (by omega)))
    rw [List.length_erase_of_mem hm] at this
    have : 0 < l.length := List.length_pos_of_mem hm
    omega
theorem room_left {m : Nat} {l : List Nat} (h : l.length < m) : ∃ j, j < m ∧ j ∉ l := by
  apply Classical.byContradiction
  intro q
  have := all_below (m := m) (l := l) (fun j hj => Classical.byContradiction fun z => q ⟨j, hj, z⟩)
  omega

/-- a clean table: no dummies, places strictly rising -/
structure TabOk (t : SetTable) (n : Nat) : Prop where
  size : t.place.size = n
  rise : Ris t.place.toList
  le : ∀ x ∈ t.place.toList, x ≤ t.mask
  dum : t.dummies = #[]

theorem has_nil (j : Nat) : SetTable.has #[] j = false := by simp [SetTable.has]

theorem slot_of {t : SetTable} {n : Nat} (h : TabOk t n) (j : Nat) : (j ∉ t.place.toList ∧ t.slot j = .empty) ∨ ∃ i, i < n ∧ t.place.toList[i]? = some j ∧ t.slot j = .live i := by
  obtain ⟨h1, h2, h3⟩ := below_spec t.place h.rise j
  unfold SetTable.slot
  dsimp only
  by_cases hj : t.place[SetTable.below t.place j]? = some j
  · refine .inr ⟨SetTable.below t.place j, ?_, ?_, ?_⟩
    · rw [← h.size]
      obtain ⟨q, _⟩ := Array.getElem?_eq_some_iff.mp hj
      exact q
    · rw [Array.getElem?_toList]; exact hj
    · rw [hj]; simp
  · refine .inl ⟨fun hm => hj ?_, ?_⟩
    · obtain ⟨k, hk, e⟩ := List.mem_iff_getElem.mp hm
      have hk' : k < t.place.size := by simpa using hk
      have ek : t.place.getD k 0 = j := by simp [Array.getD, hk']; simpa using e
      have a1 : SetTable.below t.place j ≤ k := Nat.le_of_not_lt fun q => by have := h2 k q; omega
      have a2 : k = SetTable.below t.place j := by
        rcases Nat.lt_or_eq_of_le a1 with q | q
        · have b1 := h3 _ (Nat.le_refl _) (by omega)
          have b2 := List.pairwise_iff_getElem.mp h.rise _ k (by simp; omega) hk q
          have b3 : t.place.getD (SetTable.below t.place j) 0 = t.place.toList[SetTable.below t.place j]'(by simp; omega) := by
            have : SetTable.below t.place j < t.place.size := by omega
            simp [Array.getD, this]
          rw [b3] at b1; rw [e] at b2; omega
        · exact q.symm
      rw [← a2]
      rw [Array.getElem?_eq_getElem hk']
      simpa using e
    · have : (t.place[SetTable.below t.place j]? == some j) = false := by simpa using hj
      rw [this, h.dum, has_nil]; simp

def advM (mask : Nat) (p : SetTable.Probe) : SetTable.Probe := SetTable.advance { SetTable.fresh 0 0 true with mask := mask } p
def startM (mask : Nat) (hv : Int) : SetTable.Probe := SetTable.probeStart { SetTable.fresh 0 0 true with mask := mask } hv
theorem adv_eq (t : SetTable) (p : SetTable.Probe) : t.advance p = advM t.mask p := rfl
theorem start_eq (t : SetTable) (hv : Int) : t.probeStart hv = startM t.mask hv := rfl
theorem adv_dummy (mask : Nat) (p : SetTable.Probe) : (advM mask p).dummy = p.dummy := by
  unfold advM SetTable.advance
  split <;> rfl
def seqM (mask : Nat) : Nat → SetTable.Probe → List Nat
  | 0, _ => []
  | n + 1, p => p.j :: seqM mask n (advM mask p)

theorem probe_go {t : SetTable} {n : Nat} (h : TabOk t n) {hashAt : Nat → Int} {hv : Int} (hh : ∀ i, i < n → hashAt i ≠ hv) : ∀ (fuel : Nat) (p : SetTable.Probe), p.dummy = none →
    (∃ j, j ∈ seqM t.mask fuel p ∧ j ∉ t.place.toList) → ∃ j, SetTable.probe.go t hashAt hv fuel p = some (.empty j none) ∧ j ∈ seqM t.mask fuel p ∧ j ∉ t.place.toList := by
  intro fuel
  induction fuel with
  | zero => intro p _ ⟨j, hj, _⟩; cases hj
  | succ k ih =>
    intro p hp ⟨j, hj, hn⟩
    unfold SetTable.probe.go
    rcases slot_of h p.j with ⟨a, b⟩ | ⟨i, hi, a, b⟩
    · rw [b]; dsimp only; rw [hp]
      exact ⟨p.j, rfl, .head _, a⟩
    · rw [b]; dsimp only
      have e : (hashAt i == hv) = false := by simpa using hh i hi
      rw [e]
      simp only [Bool.false_eq_true, if_false]
      have hj' : j ∈ seqM t.mask k (advM t.mask p) := by
        rcases List.mem_cons.mp hj with rfl | q
        · exact absurd (List.mem_of_getElem? a) hn
        · exact q
      obtain ⟨j', x, y, z⟩ := ih (t.advance p) (by rw [adv_eq, adv_dummy]; exact hp) ⟨j, by rw [adv_eq]; exact hj', hn⟩
      exact ⟨j', x, .tail _ (by rw [adv_eq] at y; exact y), z⟩

def covGo (mask : Nat) : Nat → SetTable.Probe → Nat → Bool
  | 0, _, acc => acc == 2 ^ (mask + 1) - 1
  | n + 1, p, acc => acc == 2 ^ (mask + 1) - 1 || covGo mask n (advM mask p) (acc ||| 2 ^ p.j)
/-- the probe road meets every slot -/
def covP (mask : Nat) (hv : Int) : Bool := covGo mask (10 * SetTable.turns mask) (startM mask hv) 0
theorem covGo_ok {mask : Nat} : ∀ {n : Nat} {p : SetTable.Probe} {acc : Nat}, covGo mask n p acc = true → ∀ j, j ≤ mask → acc.testBit j = true ∨ j ∈ seqM mask n p := by
  intro n
  have full : ∀ {acc j : Nat}, acc = 2 ^ (mask + 1) - 1 → j ≤ mask → acc.testBit j = true := by
    rintro _ j rfl hj
    rw [Nat.testBit_two_pow_sub_one]
    exact decide_eq_true (by omega)
  induction n with
  | zero =>
    intro p acc h j hj
    exact .inl (full (by simpa [covGo] using h) hj)
  | succ n ih =>
    intro p acc h j hj
    simp only [covGo, Bool.or_eq_true, beq_iff_eq] at h
    rcases h with h | h
    · exact .inl (full h hj)
    · rcases ih h j hj with q | q
      · rw [Nat.testBit_or, Nat.testBit_two_pow, Bool.or_eq_true, decide_eq_true_eq] at q
        rcases q with q | q
        · exact .inl q
        · exact .inr (q ▸ .head _)
      · exact .inr (.tail _ q)
def InM (mask : Nat) (p : SetTable.Probe) : Prop := p.j + p.more ≤ mask
theorem runEnd_le {mask i : Nat} (h : i ≤ mask) : i ≤ SetTable.runEnd mask i ∧ SetTable.runEnd mask i ≤ mask := by
  unfold SetTable.runEnd
  split <;> omega
theorem inM_start (mask : Nat) (hv : Int) : InM mask (startM mask hv) := by
  have h : SetTable.bits hv % (mask + 1) ≤ mask := Nat.le_of_lt_succ (Nat.mod_lt _ (Nat.succ_pos _))
  have := runEnd_le h
  show SetTable.bits hv % (mask + 1) + (SetTable.runEnd mask (SetTable.bits hv % (mask + 1)) - SetTable.bits hv % (mask + 1)) ≤ mask
  omega
theorem inM_adv {mask : Nat} {p : SetTable.Probe} (h : InM mask p) : InM mask (advM mask p) := by
  unfold InM advM SetTable.advance at *
  split
  · dsimp only; omega
  · have h : (p.i * 5 + 1 + p.perturb / 32) % (mask + 1) ≤ mask := Nat.le_of_lt_succ (Nat.mod_lt _ (Nat.succ_pos _))
    have := runEnd_le h
    show (p.i * 5 + 1 + p.perturb / 32) % (mask + 1) + (SetTable.runEnd mask ((p.i * 5 + 1 + p.perturb / 32) % (mask + 1)) - (p.i * 5 + 1 + p.perturb / 32) % (mask + 1)) ≤ mask
    omega
theorem seqM_le {mask : Nat} : ∀ {n : Nat} {p : SetTable.Probe}, InM mask p → ∀ j, j ∈ seqM mask n p → j ≤ mask := by
  intro n
  induction n with
  | zero => intro p _ j hj; cases hj
  | succ n ih =>
    intro p h j hj
    rcases List.mem_cons.mp hj with rfl | q
    · unfold InM at h; omega
    · exact ih (inM_adv h) j q

theorem probe_ok {t : SetTable} {n : Nat} (h : TabOk t n) {hashAt : Nat → Int} {hv : Int} (hh : ∀ i, i < n → hashAt i ≠ hv) (hc : covP t.mask hv = true) (hn : n ≤ t.mask) :
    ∃ j, t.probe hashAt hv (t.probeStart hv) = some (.empty j none) ∧ j ≤ t.mask ∧ j ∉ t.place.toList := by
  obtain ⟨j₀, h0, h1⟩ := room_left (m := t.mask + 1) (l := t.place.toList) (by simp [h.size]; omega)
  have hm : j₀ ∈ seqM t.mask (10 * SetTable.turns t.mask) (startM t.mask hv) := (covGo_ok hc j₀ (by omega)).resolve_left (by simp)
  obtain ⟨j, a, b, c⟩ := probe_go h hh (10 * SetTable.turns t.mask) (startM t.mask hv) (by rfl) ⟨j₀, hm, h1⟩
  exact ⟨j, a, seqM_le (inM_start _ _) j b, c⟩

theorem put_ok {t : SetTable} {n : Nat} (h : TabOk t n) {j : Nat} (hj : j ≤ t.mask) (hn : j ∉ t.place.toList) :
    TabOk (t.put j).1 (n + 1) ∧ (t.put j).1 = { t with place := SetTable.insertAt t.place (SetTable.below t.place j) j } ∧ (t.put j).2 ≤ n := by
  have e : (t.put j).1 = { t with place := SetTable.insertAt t.place (SetTable.below t.place j) j } := by
    unfold SetTable.put
    rw [h.dum, has_nil]
    simp [← h.dum]
  refine ⟨?_, e, ?_⟩
  · rw [e]
    refine ⟨?_, ris_insert t.place h.rise j hn, fun x hx => ?_, h.dum⟩
    · show (SetTable.insertAt t.place (SetTable.below t.place j) j).size = n + 1
      rw [← Array.length_toList, (SetTable.insertAt_perm t.place _ j).length_eq, Array.toList_push, List.length_append, Array.length_toList, h.size]; rfl
    · have hx' : x ∈ (SetTable.insertAt t.place (SetTable.below t.place j) j).toList := hx
      rw [(SetTable.insertAt_perm t.place _ j).mem_iff, Array.toList_push] at hx'
      rcases List.mem_append.mp hx' with q | q
      · exact h.le x q
      · rw [List.mem_singleton.mp q]; exact hj
  · show SetTable.below t.place j ≤ n
    rw [← h.size]
    exact (below_spec t.place h.rise j).1

theorem TabOk.fits {t : SetTable} {n : Nat} (h : TabOk t n) (hn : n ≤ t.mask) : t.fits n = true := by
  simp [SetTable.fits, SetTable.fill, h.size, h.dum]
  exact hn

theorem layNew_ok {t : SetTable} {es : Array (Int × Value)} (h : TabOk t es.size) {hv : Int} {x : Value} (hc : covP t.mask hv = true) (hn : es.size < t.mask) :
    ∃ p t', layNew t es hv x = (SetTable.insertAt es p (hv, x), t', false, false) ∧ TabOk t' (es.size + 1) ∧ t'.mask = t.mask ∧ t'.plain = t.plain ∧ t'.led = t.led := by
  obtain ⟨j, a, b, c⟩ := probe_ok h (hashAt := fun _ => hv + 1) (hv := hv) (fun i _ => by omega) hc (Nat.le_of_lt hn)
  obtain ⟨p1, p2, p3⟩ := put_ok h b c
  have hf : t.freeSlot hv = some (j, false) := by
    unfold SetTable.freeSlot
    rw [a]; rfl
  have hsz : (SetTable.insertAt es (t.put j).2 (hv, x)).size = es.size + 1 := by
    rw [← Array.length_toList, (SetTable.insertAt_perm es _ (hv, x)).length_eq, Array.toList_push, List.length_append, Array.length_toList]; rfl
  have hfit : (t.put j).1.fits (es.size + 1) = true := p1.fits (by rw [p2]; exact hn)
  refine ⟨(t.put j).2, (t.put j).1, ?_, p1, by rw [p2], by rw [p2], by rw [p2]⟩
  unfold layNew
  rw [hf]
  dsimp only
  rw [hsz]
  unfold SetTable.orStandIn
  rw [hfit]; rfl

def seqR (mask : Nat) : Nat → Nat → Nat → List Nat
  | 0, _, _ => []
  | n + 1, i, q => (List.range (SetTable.runEnd mask i + 1 - i)).map (i + ·) ++ seqR mask n (SetTable.leap mask i q).1 (SetTable.leap mask i q).2
def covRGo (mask : Nat) : Nat → Nat → Nat → Nat → Bool
  | 0, _, _, acc => acc == 2 ^ (mask + 1) - 1
  | n + 1, i, q, acc => acc == 2 ^ (mask + 1) - 1 || covRGo mask n (SetTable.leap mask i q).1 (SetTable.leap mask i q).2 ((List.range (SetTable.runEnd mask i + 1 - i)).foldl (fun a k => a ||| 2 ^ (i + k)) acc)
def covR (mask : Nat) (hv : Int) : Bool := covRGo mask (SetTable.turns mask) (SetTable.bits hv % (mask + 1)) (SetTable.bits hv) 0
theorem fold_bits (i j : Nat) : ∀ (l : List Nat) (acc : Nat), (l.foldl (fun a k => a ||| 2 ^ (i + k)) acc).testBit j = true → acc.testBit j = true ∨ j ∈ l.map (i + ·) := by
  intro l
  induction l with
  | nil => intro acc h; exact .inl h
  | cons k l ih =>
    intro acc h
    rcases ih _ h with q | q
    · rw [Nat.testBit_or, Nat.testBit_two_pow, Bool.or_eq_true, decide_eq_true_eq] at q
      rcases q with q | q
      · exact .inl q
      · exact .inr (q ▸ .head _)
    · exact .inr (.tail _ q)
theorem covRGo_ok {mask : Nat} : ∀ {n i q acc : Nat}, covRGo mask n i q acc = true → ∀ j, j ≤ mask → acc.testBit j = true ∨ j ∈ seqR mask n i q := by
  intro n
  have full : ∀ {acc j : Nat}, acc = 2 ^ (mask + 1) - 1 → j ≤ mask → acc.testBit j = true := by
    rintro _ j rfl hj
    rw [Nat.testBit_two_pow_sub_one]
    exact decide_eq_true (by omega)
  induction n with
  | zero =>
    intro i q acc h j hj
    exact .inl (full (by simpa [covRGo] using h) hj)
  | succ n ih =>
    intro i q acc h j hj
    simp only [covRGo, Bool.or_eq_true, beq_iff_eq] at h
    rcases h with h | h
    · exact .inl (full h hj)
    · rcases ih h j hj with z | z
      · rcases fold_bits i j _ _ z with z | z
        · exact .inl z
        · exact .inr (List.mem_append_left _ z)
      · exact .inr (List.mem_append_right _ z)

theorem free_ok (mask : Nat) (owner : Array (Option Nat)) : ∀ (n i q : Nat), (∃ j, j ∈ seqR mask n i q ∧ owner.getD j (some 0) = none) →
    ∃ j, SetTable.layClean.free mask owner n i q = some j ∧ owner.getD j (some 0) = none := by
  intro n
  induction n with
  | zero => intro i q ⟨j, hj, _⟩; cases hj
  | succ n ih =>
    intro i q ⟨j, hj, hn⟩
    unfold SetTable.layClean.free
    cases hf : (List.range (SetTable.runEnd mask i + 1 - i)).find? fun k => (owner.getD (i + k) (some 0)).isNone with
    | some k =>
      refine ⟨i + k, rfl, ?_⟩
      have := List.find?_some hf
      simpa using this
    | none =>
      dsimp only
      refine ih _ _ ⟨j, ?_, hn⟩
      rcases List.mem_append.mp hj with a | a
      · obtain ⟨k, hk, rfl⟩ := List.mem_map.mp a
        have := List.find?_eq_none.mp hf k hk
        rw [hn] at this
        simp at this
      · exact a

structure OwnOk (mask : Nat) (owner : Array (Option Nat)) (k : Nat) : Prop where
  size : owner.size = mask + 1
  all : ∀ i, i < k → ∃ j : Nat, owner[j]? = some (some i)
  lt : ∀ j i : Nat, owner[j]? = some (some i) → i < k
  inj : ∀ j j' i : Nat, owner[j]? = some (some i) → owner[j']? = some (some i) → j = j'

theorem OwnOk.room {mask : Nat} {owner : Array (Option Nat)} {k : Nat} (h : OwnOk mask owner k) (hk : k ≤ mask) : ∃ j, j < mask + 1 ∧ owner.getD j (some 0) = none := by
  have hc : ∀ i, ∃ j, i < k → owner[j]? = some (some i) := fun i => by
    by_cases q : i < k
    · obtain ⟨j, hj⟩ := h.all i q; exact ⟨j, fun _ => hj⟩
    · exact ⟨0, fun z => absurd z q⟩
  obtain ⟨f, hf⟩ := Classical.axiomOfChoice hc
  obtain ⟨j, hj, hn⟩ := room_left (m := mask + 1) (l := (List.range k).map f) (by simp; omega)
  refine ⟨j, hj, ?_⟩
  have hs : j < owner.size := by rw [h.size]; exact hj
  have e : owner.getD j (some 0) = owner[j] := by simp [Array.getD, hs]
  rw [e]
  cases ho : owner[j] with
  | none => rfl
  | some i =>
    have e1 : owner[j]? = some (some i) := by rw [Array.getElem?_eq_getElem hs, ho]
    have e2 := h.lt j i e1
    have e3 := h.inj _ _ _ e1 (hf i e2)
    exact absurd (List.mem_map.mpr ⟨i, List.mem_range.mpr e2, e3.symm⟩) hn

theorem lay_fold (mask : Nat) : ∀ (l : List Int) (owner : Array (Option Nat)) (k : Nat), OwnOk mask owner k → k + l.length ≤ mask → (∀ hv, hv ∈ l → covR mask hv = true) →
    ∃ owner', l.foldl (init := some (owner, k)) (fun acc hv => do
      let (owner, k) ← acc
      let j ← SetTable.layClean.free mask owner (SetTable.turns mask) (SetTable.bits hv % (mask + 1)) (SetTable.bits hv)
      pure (owner.setIfInBounds j (some k), k + 1)) = some (owner', k + l.length) ∧ OwnOk mask owner' (k + l.length) := by
  intro l
  induction l with
  | nil => intro owner k h _ _; exact ⟨owner, rfl, h⟩
  | cons hv l ih =>
    intro owner k h hk hc
    have hcv := hc hv (.head _)
    obtain ⟨j₀, h0, h1⟩ := h.room (by simp at hk; omega)
    obtain ⟨j, a, b⟩ := free_ok mask owner (SetTable.turns mask) (SetTable.bits hv % (mask + 1)) (SetTable.bits hv) ⟨j₀, (covRGo_ok hcv j₀ (by omega)).resolve_left (by simp), h1⟩
    have hj : j < owner.size := by
      apply Classical.byContradiction
      intro q
      simp [Array.getD, q] at b
    have hjn : owner[j]? = some none := by
      rw [Array.getElem?_eq_getElem hj]
      simp [Array.getD, hj] at b
      rw [b]
    have h' : OwnOk mask (owner.setIfInBounds j (some k)) (k + 1) := by
      have get : ∀ i, (owner.setIfInBounds j (some k))[i]? = if j = i then some (some k) else owner[i]? := fun i => by
        rw [Array.getElem?_setIfInBounds]
        by_cases q : j = i
        · subst q; simp [hj]
        · simp [q]
      refine ⟨by simp [h.size], fun i hi => ?_, fun i x e => ?_, fun i i' x e e' => ?_⟩
      · rcases Nat.lt_or_eq_of_le (Nat.le_of_lt_succ hi) with q | q
        · obtain ⟨j', e⟩ := h.all i q
          refine ⟨j', ?_⟩
          rw [get, if_neg (by rintro rfl; rw [hjn] at e; cases e)]; exact e
        · exact ⟨j, by rw [get, if_pos rfl, q]⟩
      · rw [get] at e
        split at e
        · cases e; exact Nat.lt_succ_self _
        · exact Nat.lt_succ_of_lt (h.lt i x e)
      · rw [get] at e e'
        split at e
        · rename_i q
          cases e
          split at e'
          · rename_i q'; rw [← q, ← q']
          · exact absurd (h.lt _ _ e') (Nat.lt_irrefl _)
        · split at e'
          · cases e'; exact absurd (h.lt _ _ e) (Nat.lt_irrefl _)
          · exact h.inj _ _ _ e e'
    obtain ⟨o', x, y⟩ := ih _ _ h' (by simp at hk; omega) fun z hz => hc z (.tail _ hz)
    refine ⟨o', ?_, by simpa [Nat.add_assoc, Nat.add_comm 1] using y⟩
    rw [List.foldl_cons]
    have e1 : (do
        let (owner, k) ← some (owner, k)
        let j ← SetTable.layClean.free mask owner (SetTable.turns mask) (SetTable.bits hv % (mask + 1)) (SetTable.bits hv)
        pure (owner.setIfInBounds j (some k), k + 1) : Option (Array (Option Nat) × Nat)) = some (owner.setIfInBounds j (some k), k + 1) := by
      show (SetTable.layClean.free mask owner (SetTable.turns mask) (SetTable.bits hv % (mask + 1)) (SetTable.bits hv) >>= fun j => pure (owner.setIfInBounds j (some k), k + 1)) = _
      rw [a]; rfl
    rw [e1, x]
    simp [Nat.add_assoc, Nat.add_comm 1]

theorem ownOk_start (mask : Nat) : OwnOk mask (Array.replicate (mask + 1) none) 0 := by
  refine ⟨by simp, fun i hi => absurd hi (Nat.not_lt_zero i), fun j i e => ?_, fun j j' i e => ?_⟩
  all_goals
    rw [Array.getElem?_replicate] at e
    split at e <;> simp at e

theorem layClean_ok (mask : Nat) (hashes : Array Int) (hk : hashes.size ≤ mask) (hc : ∀ hv, hv ∈ hashes.toList → covR mask hv = true) :
    ∃ owner, SetTable.layClean mask hashes = some owner ∧ OwnOk mask owner hashes.size := by
  obtain ⟨o, a, b⟩ := lay_fold mask hashes.toList _ 0 (ownOk_start mask) (by simpa using hk) hc
  refine ⟨o, ?_, by simpa using b⟩
  unfold SetTable.layClean
  rw [← Array.foldl_toList, a]
  rfl

theorem laid_ok (mask finger moves : Nat) (led plain : Bool) (hashes : Array Int) (hk : hashes.size ≤ mask) (hc : ∀ hv, hv ∈ hashes.toList → covR mask hv = true) :
    ∃ t' order, SetTable.laid mask finger moves led plain hashes = some (t', order) ∧ TabOk t' hashes.size ∧ t'.mask = mask ∧ t'.led = led ∧ t'.plain = plain ∧ order.toList.Perm (List.range hashes.size) := by
  obtain ⟨o, a, b⟩ := layClean_ok mask hashes hk hc
  let live := (List.range (mask + 1)).filterMap fun j => (o.getD j none).map (j, ·)
  have hgd : ∀ j i, o.getD j none = some i ↔ o[j]? = some (some i) := fun j i => by
    by_cases q : j < o.size
    · simp [Array.getD, q]
    · simp [Array.getD, q]
  have hlt : ∀ j i, o[j]? = some (some i) → j < mask + 1 := fun j i e => by
    obtain ⟨q, _⟩ := Array.getElem?_eq_some_iff.mp e
    rw [b.size] at q; exact q
  have hperm : (live.map (·.2)).Perm (List.range hashes.size) := by
    refine (List.perm_ext_iff_of_nodup ?_ List.nodup_range).mpr fun i => ?_
    · show (((List.range (mask + 1)).filterMap fun j => (o.getD j none).map (j, ·)).map (·.2)).Nodup
      rw [List.map_filterMap]
      refine List.Pairwise.filterMap _ ?_ (List.nodup_range (n := mask + 1))
      intro x x' hne i hi i' hi' he
      subst he
      have e1 : o.getD x none = some i := by
        revert hi; cases o.getD x none <;> simp
      have e2 : o.getD x' none = some i := by
        revert hi'; cases o.getD x' none <;> simp
      exact hne (b.inj _ _ _ ((hgd _ _).mp e1) ((hgd _ _).mp e2))
    · show i ∈ (((List.range (mask + 1)).filterMap fun j => (o.getD j none).map (j, ·)).map (·.2)) ↔ _
      rw [List.map_filterMap, List.mem_filterMap]
      constructor
      · rintro ⟨j, _, e⟩
        have e1 : o.getD j none = some i := by
          revert e; cases o.getD j none <;> simp
        exact List.mem_range.mpr (b.lt _ _ ((hgd _ _).mp e1))
      · intro hi
        obtain ⟨j, e⟩ := b.all i (List.mem_range.mp hi)
        exact ⟨j, List.mem_range.mpr (hlt _ _ e), by rw [(hgd _ _).mpr e]; rfl⟩
  have hlen : live.length = hashes.size := by
    have := hperm.length_eq
    simpa using this
  have hris : Ris (live.map (·.1)) := by
    show Ris (((List.range (mask + 1)).filterMap fun j => (o.getD j none).map (j, ·)).map (·.1))
    unfold Ris
    rw [List.map_filterMap]
    refine List.Pairwise.filterMap _ ?_ (List.pairwise_lt_range (n := mask + 1))
    intro x x' hxx i hi i' hi'
    have e1 : x = i := by revert hi; cases o.getD x none <;> simp
    have e2 : x' = i' := by revert hi'; cases o.getD x' none <;> simp
    rw [← e1, ← e2]; exact hxx
  refine ⟨{ mask, place := (live.map (·.1)).toArray, dummies := #[], finger, led, moves, plain }, (live.map (·.2)).toArray, ?_, ⟨by simp [hlen], hris, fun x hx => ?_, rfl⟩, rfl, rfl, rfl, hperm⟩
  · unfold SetTable.laid
    rw [a]; rfl
  · have hx' : x ∈ ((List.range (mask + 1)).filterMap fun j => (o.getD j none).map (j, ·)).map (·.1) := hx
    rw [List.map_filterMap, List.mem_filterMap] at hx'
    obtain ⟨j, hj, e⟩ := hx'
    have e1 : j = x := by revert e; cases o.getD j none <;> simp
    have := List.mem_range.mp hj
    show x ≤ mask
    omega

theorem reorder_perm {α : Type} (es : Array α) (order : Array Nat) (h : order.toList.Perm (List.range es.size)) : (order.filterMap (es[·]?)).toList.Perm es.toList := by
  rw [Array.toList_filterMap]
  exact (h.filterMap _).trans (by rw [filterMap_getElem?_range])

theorem relayAll_ok {t : SetTable} {es : Array (Int × Value)} {wanted : Nat} (hk : es.size < SetTable.sizeAbove wanted - 1) (hc : ∀ e, e ∈ es.toList → covR (SetTable.sizeAbove wanted - 1) e.1 = true) :
    ∃ es' t', relayAll t es wanted = (es', t', false) ∧ es'.toList.Perm es.toList ∧ TabOk t' es.size ∧ t'.mask = SetTable.sizeAbove wanted - 1 ∧ t'.plain = t.plain ∧ t'.led = t.led := by
  obtain ⟨t', order, a, b, c, d, e, f⟩ := laid_ok (SetTable.sizeAbove wanted - 1) t.finger (t.movedTo (SetTable.sizeAbove wanted - 1)) t.led t.plain (es.map (·.1)) (by simp; omega) (fun hv hm => by
    rw [Array.toList_map] at hm
    obtain ⟨y, hy, rfl⟩ := List.mem_map.mp hm
    exact hc y hy)
  rw [Array.size_map] at b f
  refine ⟨order.filterMap (es[·]?), t', ?_, reorder_perm es order f, b, c, e, d⟩
  unfold relayAll SetTable.relaid
  rw [a]
  dsimp only
  have e1 : (order.filterMap (es[·]?)).size = es.size := by
    rw [← Array.length_toList, (reorder_perm es order f).length_eq, Array.length_toList]
  have e2 : coversAll order es.size = true := List.isPerm_iff.mpr f
  rw [e1, e2, b.fits (by rw [c]; omega)]
  rfl

end Mine
end

section
open PySem
set_option Elab.async false
set_option maxRecDepth 100000
namespace Mine
/-- the hash of a pair of small ints, reckoned -/
def thC (a b : Int) : Int := reduceHash (Builtin.Tuple.tupleHashOf [hashInt a, hashInt b])
theorem th_ex : ∃ f : Int → Int → Int, ∀ a b, f a b = thC a b := ⟨thC, fun _ _ => rfl⟩
/-- the hash of a pair, shut (no evaluation looks into it) -/
noncomputable def th : Int → Int → Int := Classical.choose th_ex
theorem th_eq (a b : Int) : th a b = thC a b := Classical.choose_spec th_ex a b
def six : List Int := [0, 1, 2, 3, 4, 5]
def pairs36 : List (Int × Int) := six.flatMap fun a => six.map fun b => (a, b)
def goodH (hv : Int) : Bool := [7, 15, 31].all fun m => covP m hv && covR m hv
set_option maxHeartbeats 4000000
theorem good_ints : six.all goodH = true := by decide +kernel
theorem good_pairs : (pairs36.all fun p => goodH (thC p.1 p.2)) = true := by decide +kernel
theorem th_inj_all : (pairs36.all fun p => pairs36.all fun q => thC p.1 p.2 != thC q.1 q.2 || p == q) = true := by decide +kernel
end Mine
end

section
open PySem
set_option Elab.async false
set_option maxRecDepth 100000
namespace Mine

def byText (w : World) : Bool := w.params.followText "set-order"
@[reducible] def setO (es : Array (Int × Value)) (ep : Nat) (t : SetTable) : Obj := { cls := .type "set", data := .set es ep t }

/-- the entries bear these ints, in this order -/
def IntEs : List (Int × Value) → List Int → Prop
  | [], [] => True
  | e :: es, k :: l => (∃ tok, e = (hashInt k, .int k tok)) ∧ IntEs es l
  | _, _ => False

structure Clean (t : SetTable) (n : Nat) : Prop where
  ok : TabOk t n
  mask : t.mask = 7 ∨ t.mask = 31
  room : n * 5 < t.mask * 3

structure ISetO (w : World) (c : Bool) (l : List Int) (es : Array (Int × Value)) (t : SetTable) : Prop where
  plain : t.plain = true
  led : t.led = !byText w
  fits : t.fits es.size = true
  ents : IntEs es.toList l
  nodup : l.Nodup
  six : ∀ k, k ∈ l → k ∈ six
  clean : c = true → Clean t es.size

def ISet (w : World) (c : Bool) (h : Heap) (a : Addr) (l : List Int) : Prop :=
  ∃ es ep t, h.get? a = some (setO es ep t) ∧ ISetO w c l es t

theorem IntEs.length : ∀ {es : List (Int × Value)} {l : List Int}, IntEs es l → es.length = l.length
  | [], [], _ => rfl
  | _ :: es, _ :: l, h => by rw [List.length_cons, List.length_cons, IntEs.length h.2]
  | [], _ :: _, h => h.elim
  | _ :: _, [], h => h.elim
theorem IntEs.map : ∀ {es : List (Int × Value)} {l : List Int}, IntEs es l → ∀ e, e ∈ es → ∃ k tok, k ∈ l ∧ e = (hashInt k, .int k tok)
  | [], _, _, _, he => absurd he List.not_mem_nil
  | _ :: _, [], h, _, _ => h.elim
  | _ :: es, k :: l, h, e, he => by
    rcases List.mem_cons.mp he with rfl | he
    · obtain ⟨tok, e1⟩ := h.1
      exact ⟨k, tok, .head _, e1⟩
    · obtain ⟨k', tok, a, b⟩ := IntEs.map h.2 e he
      exact ⟨k', tok, .tail _ a, b⟩
theorem IntEs.of_mem : ∀ {es : List (Int × Value)} {l : List Int}, IntEs es l → ∀ k, k ∈ l → ∃ tok, (hashInt k, Value.int k tok) ∈ es
  | [], [], _, _, hx => absurd hx List.not_mem_nil
  | [], _ :: _, h, _, _ => h.elim
  | _ :: _, [], h, _, _ => h.elim
  | _ :: es, k :: l, h, x, hx => by
    rcases List.mem_cons.mp hx with rfl | hx
    · obtain ⟨tok, rfl⟩ := h.1
      exact ⟨tok, .head _⟩
    · obtain ⟨tok, a⟩ := IntEs.of_mem h.2 x hx
      exact ⟨tok, .tail _ a⟩
/-- entries that bear ints, read off -/
def keyOf (e : Int × Value) : Int := match e.2 with | .int k _ => k | _ => 0
theorem IntEs.eq_map : ∀ {es : List (Int × Value)} {l : List Int}, IntEs es l → l = es.map keyOf
  | [], [], _ => rfl
  | _ :: es, k :: l, h => by
    obtain ⟨tok, rfl⟩ := h.1
    rw [List.map_cons, ← IntEs.eq_map h.2]; rfl
  | [], _ :: _, h => h.elim
  | _ :: _, [], h => h.elim
theorem intEs_of : ∀ {es : List (Int × Value)}, (∀ e, e ∈ es → ∃ k tok, e = (hashInt k, Value.int k tok)) → IntEs es (es.map keyOf)
  | [], _ => trivial
  | e :: es, h => by
    obtain ⟨k, tok, rfl⟩ := h e (.head _)
    exact ⟨⟨tok, rfl⟩, intEs_of fun x hx => h x (.tail _ hx)⟩

theorem nodup_six {l : List Int} (h : l.Nodup) (hs : ∀ k, k ∈ l → k ∈ six) : l.length ≤ 6 := by
  have : ∀ (m l : List Int), l.Nodup → (∀ k, k ∈ l → k ∈ m) → l.length ≤ m.length := by
    intro m l
    induction l generalizing m with
    | nil => intro _ _; exact Nat.zero_le _
    | cons x l ih =>
      intro hn hm
      have hx := hm x (.head _)
      have := ih (m.erase x) (List.nodup_cons.mp hn).2 (fun k hk => (List.mem_erase_of_ne (by rintro rfl; exact (List.nodup_cons.mp hn).1 hk)).mpr (hm k (.tail _ hk)))
      rw [List.length_erase_of_mem hx] at this
      have : 0 < m.length := List.length_pos_of_mem hx
      rw [List.length_cons]; omega
  exact this six l h hs

theorem good_int {k : Int} (h : k ∈ six) : goodH (hashInt k) = true := by
  have e : hashInt k = k := by
    simp only [six, List.mem_cons, List.not_mem_nil, or_false] at h
    rcases h with rfl | rfl | rfl | rfl | rfl | rfl <;> decide
  rw [e]
  exact List.all_eq_true.mp good_ints k h
theorem goodH_at {hv : Int} (h : goodH hv = true) {m : Nat} (hm : m = 7 ∨ m = 15 ∨ m = 31) : covP m hv = true ∧ covR m hv = true := by
  simp only [goodH, List.all_cons, List.all_nil, Bool.and_true, Bool.and_eq_true] at h
  obtain ⟨a, b, c⟩ := h
  rcases hm with rfl | rfl | rfl
  · exact a
  · exact b
  · exact c

section
variable {prog : Program} {w : World} {A : Around} {E : Value → Shared → Prop} {s : Shared}

theorem IntEs.elems {es : List (Int × Value)} {l : List Int} (h : IntEs es l) : ElemsOf (intKind prog w) es := by
  intro e he
  obtain ⟨k, tok, _, rfl⟩ := h.map e he
  exact ⟨⟨k, by simp [intKind, Value.isInt], rfl⟩, rfl⟩
theorem IntEs.mem_iff {es : List (Int × Value)} {l : List Int} (h : IntEs es l) (k : Int) : k ∈ l ↔ ∃ e ∈ es, (intKind prog w).is k e.2 = true := by
  constructor
  · intro hk
    obtain ⟨tok, ht⟩ := h.of_mem k hk
    exact ⟨_, ht, by simp [intKind, Value.isInt]⟩
  · rintro ⟨e, he, hi⟩
    obtain ⟨k', tok, hk', rfl⟩ := h.map e he
    have : k' = k := by simpa [intKind, Value.isInt] using hi
    exact this ▸ hk'

theorem ISet.setOf {c : Bool} {h : Heap} {a : Addr} {l : List Int} (H : ISet w c h a l) : h.SetOf (intKind prog w) a (fun k => decide (k ∈ l)) l.length := by
  obtain ⟨es, ep, t, ho, O⟩ := H
  have hl := O.ents.length
  have h6 := nodup_six O.nodup O.six
  refine ⟨_, es, ep, t, ho, ⟨rfl, rfl, rfl⟩, rfl, O.ents.elems, fun k => by rw [decide_eq_true_eq]; exact O.ents.mem_iff k, ?_, O.fits, ?_⟩
  · rw [← Array.length_toList, hl]; exact Nat.lt_of_le_of_lt h6 (by decide)
  · rw [← Array.length_toList, hl]

theorem sizeAbove20 : SetTable.sizeAbove 20 = 32 := by decide

/-- what an add makes of a clean table -/
theorem add_pure {w : World} {l : List Int} {es : Array (Int × Value)} {t : SetTable} {k : Int} {tok : Tok} (O : ISetO w true l es t) (hk : k ∈ six) (hn : k ∉ l) :
    ∃ es1 t1, layNew t es (hashInt k) (.int k tok) = (es1, t1, false, false) ∧ t1.plain = true ∧ es1.size = es.size + 1 ∧ es1.size ≤ 6 ∧
      (t1.tooFull = false ∧ ISetO w true (es1.toList.map keyOf) es1 t1 ∨
        t1.tooFull = true ∧ ∃ es2 t2, relayAll t1 es1 (SetTable.grown es1.size) = (es2, t2, false) ∧ es2.toList.Perm es1.toList ∧ ISetO w true (es2.toList.map keyOf) es2 t2) ∧
      ∀ x, x ∈ es1.toList.map keyOf ↔ x ∈ l ∨ x = k := by
  obtain ⟨⟨tok', hm, hr⟩⟩ := Nonempty.intro (O.clean rfl)
  have hlen : es.size = l.length := by rw [← Array.length_toList, O.ents.length]
  have hg := good_int hk
  obtain ⟨p, t1, e1, k1, m1, p1, l1⟩ := layNew_ok (x := .int k tok) tok' (goodH_at hg (hm.elim .inl fun q => .inr (.inr q))).1 (by omega)
  have hperm := SetTable.insertAt_perm es p (hashInt k, Value.int k tok)
  generalize hes1 : SetTable.insertAt es p (hashInt k, Value.int k tok) = es1 at e1 hperm
  rw [Array.toList_push] at hperm
  have hents : ∀ e, e ∈ es1.toList → ∃ k tok, e = (hashInt k, Value.int k tok) := fun e he => by
    rcases List.mem_append.mp (hperm.mem_iff.mp he) with q | q
    · obtain ⟨k', tok', _, z⟩ := O.ents.map e q; exact ⟨k', tok', z⟩
    · exact ⟨k, tok, List.mem_singleton.mp q⟩
  have hmem : ∀ x, x ∈ es1.toList.map keyOf ↔ x ∈ l ∨ x = k := fun x => by
    rw [(hperm.map keyOf).mem_iff, List.map_append, List.mem_append, ← O.ents.eq_map]
    simp [keyOf]
  have hnd : (es1.toList.map keyOf).Nodup := by
    refine (hperm.map keyOf).nodup_iff.mpr ?_
    rw [List.map_append, ← O.ents.eq_map, List.nodup_append]
    refine ⟨O.nodup, by simp, fun x hx y hy => ?_⟩
    simp [keyOf] at hy
    rintro rfl
    exact hn (hy ▸ hx)
  have h6 : ∀ x, x ∈ es1.toList.map keyOf → x ∈ six := fun x hx => ((hmem x).mp hx).elim (O.six x) fun e => e ▸ hk
  have hsz : es1.size = es.size + 1 := by
    rw [← Array.length_toList, hperm.length_eq, List.length_append, Array.length_toList]; rfl
  have hs6 : es1.size ≤ 6 := by
    have := nodup_six hnd h6
    simpa using this
  have ht1 : TabOk t1 es1.size := hsz ▸ k1
  have hfill : t1.fill = es1.size := by simp [SetTable.fill, ht1.size, ht1.dum]
  refine ⟨es1, t1, e1, by rw [p1, O.plain], hsz, hs6, ?_, hmem⟩
  cases hf : t1.tooFull with
  | false =>
    refine .inl ⟨rfl, by rw [p1, O.plain], by rw [l1, O.led], ht1.fits (by rw [m1]; omega), intEs_of hents, hnd, h6, fun _ => ⟨ht1, by rw [m1]; exact hm, ?_⟩⟩
    simp only [SetTable.tooFull, hfill, decide_eq_false_iff_not] at hf
    omega
  | true =>
    refine .inr ⟨rfl, ?_⟩
    simp only [SetTable.tooFull, hfill, decide_eq_true_eq] at hf
    have h5 : es1.size = 5 := by rcases hm with q | q <;> rw [m1, q] at hf <;> omega
    have hw : SetTable.grown es1.size = 20 := by rw [h5]; rfl
    rw [hw]
    obtain ⟨es2, t2, a2, b2, c2, d2, p2, l2⟩ := relayAll_ok (t := t1) (es := es1) (wanted := 20) (by rw [sizeAbove20]; omega) (fun e he => by
      obtain ⟨k', tok', z⟩ := hents e he
      rw [sizeAbove20, z]
      have : k' ∈ es1.toList.map keyOf := List.mem_map.mpr ⟨e, he, by rw [z]; rfl⟩
      exact (goodH_at (good_int (h6 _ this)) (.inr (.inr rfl))).2)
    have hs2 : es2.size = es1.size := by rw [← Array.length_toList, b2.length_eq, Array.length_toList]
    rw [sizeAbove20] at d2
    have hc : TabOk t2 es2.size := hs2 ▸ c2
    refine ⟨es2, t2, a2, b2, by rw [p2, p1, O.plain], by rw [l2, l1, O.led], hc.fits (by rw [d2]; omega), intEs_of fun e he => hents e (b2.mem_iff.mp he), ((b2.map keyOf).nodup_iff).mpr hnd, fun x hx => h6 x ((b2.map keyOf).mem_iff.mp hx), fun _ => ⟨hc, .inr d2, by rw [d2]; omega⟩⟩

theorem get_set (ho : s.heap.get? a = some (setO es ep t)) (es' : Array (Int × Value)) (t' : SetTable) :
    (s.heap.update a (Obj.putSet es' t')).get? a = some (setO es' (ep + 1) t') := by
  have := Heap.get?_update_self (Obj.putSet es' t') ho (by rfl)
  exact this

theorem add_int {a : Addr} {l : List Int} {k : Int} {tok : Tok} {Q : Bool → Shared → Prop} (hS : ISet w true s.heap a l) (hk : k ∈ six)
    (h : ∀ h' l', Heap.SameBut a s.heap h' → ISet w true h' a l' → (∀ x, x ∈ l' ↔ x ∈ l ∨ x = k) → Q (!decide (k ∈ l)) { s with heap := h' }) :
    wpAny (model prog w) A (setAddHashed a (.int k tok) (hashInt k)) Q E s := by
  obtain ⟨es, ep, t, ho, O⟩ := hS
  have hel : ElemsOf (intKind prog w) es.toList := O.ents.elems
  have hkey : (intKind prog w).is k (.int k tok) = true := by simp [intKind, Value.isInt]
  have hlen : es.size = l.length := by rw [← Array.length_toList, O.ents.length]
  have h6 := nodup_six O.nodup O.six
  have hb : es.size < scanBound := by rw [hlen]; exact Nat.lt_of_le_of_lt h6 (by decide)
  unfold setAddHashed setAddHashedIn
  refine wpAny_holding (wpAny_bind (wpAny_setState_of ho rfl O.fits ?_))
  dsimp only
  rw [byScan_of (knd := intKind prog w) rfl hb hel]
  simp only [↓reduceIte]
  unfold setAddByScan
  refine wpAny_bind ?_
  refine wpAny_bind (wpAny_rule ?_)
  refine wpAny_bind (wpAny_setScan_of (knd := intKind prog w) hkey ho rfl O.fits hel ?_)
  cases hr : List.findIdx? (fun e => (intKind prog w).is k e.2) es.toList with
  | some j =>
    dsimp only
    obtain ⟨hj, hpj, _⟩ := List.findIdx?_eq_some_iff_getElem.mp hr
    have hm : k ∈ l := (O.ents.mem_iff (prog := prog) (w := w) k).mpr ⟨es.toList[j], List.getElem_mem hj, hpj⟩
    refine wpAny_pure (wpAny_pure ?_)
    have := h s.heap l (Heap.SameBut.refl a s.heap) ⟨es, ep, t, ho, O⟩ fun x => ⟨.inl, fun q => q.elim id fun e => e ▸ hm⟩
    rw [decide_eq_true hm] at this
    exact this
  | none =>
    dsimp only
    have hm : k ∉ l := fun q => by
      obtain ⟨e, he, hp⟩ := (O.ents.mem_iff (prog := prog) (w := w) k).mp q
      have := List.findIdx?_eq_none_iff.mp hr e he
      rw [hp] at this; cases this
    rw [decide_eq_false hm] at h
    obtain ⟨es1, t1, e1, p1, sz1, s6, hcase, hmem⟩ := add_pure (tok := tok) O hk hm
    rw [e1]
    dsimp only
    refine wpAny_bind (wpAny_pure ?_)
    rw [if_pos p1, hashByValue_scannable 8 rfl]
    refine wpAny_bind (wpAny_pure ?_)
    dsimp only [plainKind]
    simp only [↓reduceIte]
    have hz1 : es1.size ≤ sizeLine := by rw [sizeLine_eq]; omega
    refine wpAny_bind (wpAny_storeSet_of ho rfl ?_ hz1)
    have ho1 := get_set ho es1 t1
    have hsb1 := Heap.SameBut.update s.heap a (Obj.putSet es1 t1)
    rcases hcase with ⟨hf, O1⟩ | ⟨hf, es2, t2, e2, perm2, O2⟩
    · rw [hf]
      simp only [Bool.not_false, Bool.and_false, Bool.false_eq_true, ↓reduceIte]
      exact wpAny_pure (wpAny_pure (h _ _ hsb1 ⟨es1, ep + 1, t1, ho1, O1⟩ hmem))
    · rw [hf, e2]
      simp only [Bool.not_false, Bool.and_self, ↓reduceIte]
      have hz2 : es2.size ≤ sizeLine := by rw [sizeLine_eq, ← Array.length_toList, perm2.length_eq, Array.length_toList]; omega
      refine wpAny_bind (wpAny_pure ?_)
      refine wpAny_bind (wpAny_storeSet_of (s := { s with heap := _ }) ho1 rfl ?_ hz2)
      have ho2 := get_set (s := { s with heap := _ }) ho1 es2 t2
      exact wpAny_pure (wpAny_pure (h _ _ (hsb1.trans (Heap.SameBut.update _ a _)) ⟨es2, ep + 1 + 1, t2, ho2, O2⟩ fun x => by rw [(perm2.map keyOf).mem_iff]; exact hmem x))
end
end Mine
end

section
open PySem
set_option Elab.async false
set_option maxRecDepth 100000
namespace Mine

section
variable {prog : Program} {w : World} {A : Around} {E : Value → Shared → Prop} {s : Shared}

@[reducible] def emptySet (w : World) : Obj := setO #[] 0 (.fresh 0 0 (!byText w))

theorem clean_fresh (led : Bool) : Clean (.fresh 0 0 led) 0 := ⟨⟨rfl, List.Pairwise.nil, fun _ h => absurd h List.not_mem_nil, rfl⟩, .inl rfl, Nat.lt_of_sub_eq_succ rfl⟩
theorem iset_empty {h : Heap} {a : Addr} (ho : h.get? a = some (emptySet w)) : ISet w true h a [] :=
  ⟨_, _, _, ho, rfl, rfl, rfl, trivial, .nil, fun _ h => absurd h List.not_mem_nil, fun _ => clean_fresh _⟩

theorem newSet_led {Q : Value → Shared → Prop} (h : Q (.ref s.heap.objs.size) { s with heap := s.heap.push (emptySet w) }) :
    wpAny (model prog w) A (newSet (.type "set")) Q E s := by
  unfold newSet setsByText
  refine wpAny_bind (wpAny_bind (wpAny_askSetting (wpAny_pure ?_)))
  dsimp only
  simp only [newObj]
  exact wpAny_bind (wpAny_alloc (wpAny_pure h))

theorem code_set_led {Q₁ : Value → Shared → Prop} (h : Q₁ (.ref s.heap.objs.size) { s with heap := s.heap.push (emptySet w) }) :
    codeAny (model prog w) A (.call (.builtin "set.__new__") ⟨[.type "set"], []⟩) (wants Q₁ E) s := by
  refine codeAny_of_tree ?_
  show wpAny _ A.in1 (do checkBuiltinCall "set.__new__" ⟨[.type "set"], []⟩; again (.builtin "set.__new__" ⟨[.type "set"], []⟩)) _ _ s
  refine wpAny_bind (wpAny_of_eq F.newCall_set_0 (wpAny_pure ⟨plainId_quiet F.plain_set_new _, codeAny_builtin F.entry_set_new ?_⟩))
  rw [Around.under_plainId F.plain_set_new _]
  unfold Builtin.«set.__new__» Builtin.Frozenset.newClass
  have hsub := sub_set_self
  obtain ⟨hp, g, d, tk, os⟩ := s
  dsimp only
  wp_walk
  refine wpAny_askSetting (wpAny_pure ?_)
  dsimp only
  simp only [newObj]
  exact wpAny_bind (wpAny_alloc (wpAny_pure (wpAny_pure h)))

set_option maxHeartbeats 1000000 in
/-- the call set(): an empty set, led as the world has it -/
theorem call_set_led {Q : Value → Shared → Prop} (h : Q (.ref s.heap.objs.size) { s with heap := s.heap.push (emptySet w) }) :
    wpAny (model prog w) A (call (.type "set") []) Q E s := by
  obtain ⟨c, tl, hmro⟩ := F.called_set.mro
  have hmade := F.called_set.made
  have hsub := F.called_set.sub
  refine wpAny_call (codeAny_of_tree ?_)
  show wpAny _ _ (callAny (.type "set") _) _ _ _
  refine wpAny_pure ⟨Code.quiet_builtin _ (by decide +kernel), codeAny_builtin F.entry_type_call ?_⟩
  rw [Around.under_plain (weight_type_call_type "set" [] []) rfl]
  have h1 := F.called_set.notType
  have h2 := F.called_set.canCreate
  have hct := F.typeCall_set_0
  repeat (any_goals (first | assumption | wp_step))
  refine codeAny_mono (code_set_led (E := E) (Q₁ := fun obj s₁ => obj = .ref s.heap.objs.size ∧ s₁ = { s with heap := s.heap.push (emptySet w) }) ⟨rfl, rfl⟩) fun r s₁ hr => ?_
  cases r with
  | error e => exact hr
  | ok fl =>
    cases fl with
    | ret obj =>
      obtain ⟨rfl, rfl⟩ := hr
      have hS : (s.heap.push (emptySet w)).get? s.heap.objs.size = some (emptySet w) := Heap.get?_push_size _ rfl
      have hT : Shared.TypeIs { s with heap := s.heap.push (emptySet w) } (.ref s.heap.objs.size) "set" := ⟨_, hS, rfl⟩
      have hli := F.called_set.init.lookup
      have hbi := F.called_set.init.bind (.ref s.heap.objs.size)
      repeat (any_goals (first | assumption | wp_step))
      refine codeAny_mono (codeAny_call_builtin (R := wants (fun r s₂ => r = .none ∧ Q (.ref s.heap.objs.size) s₂) E) F.called_set.init.plain F.entry_set_init (check_set_init hT ?_)) fun r₂ s₂ hr₂ => ?_
      · unfold Builtin.«set.__init__» noKeywords
        wp_walk
        exact ⟨rfl, h⟩
      · cases r₂ with
        | error e => exact hr₂
        | ok fl₂ =>
          cases fl₂ with
          | ret r =>
            obtain ⟨rfl, hq⟩ := hr₂
            repeat (any_goals (first | assumption | wp_step))
          | _ => exact hr₂.elim
    | _ => exact hr.elim

theorem eraseAt_list {α : Type} (xs : Array α) (i : Nat) : (SetTable.eraseAt xs i).toList = xs.toList.take i ++ xs.toList.drop (i + 1) := by
  simp [SetTable.eraseAt, List.extract_eq_take_drop, List.take_of_length_le]

theorem IntEs.get {es : List (Int × Value)} : ∀ {l : List Int}, IntEs es l → ∀ {i : Nat} {e : Int × Value}, es[i]? = some e → ∃ k tok, l[i]? = some k ∧ e = (hashInt k, .int k tok) := by
  induction es with
  | nil => intro l _ i e he; simp at he
  | cons e0 es ih =>
    intro l h i e he
    cases l with
    | nil => exact h.elim
    | cons k l =>
      cases i with
      | zero =>
        obtain ⟨tok, e1⟩ := h.1
        simp at he
        exact ⟨k, tok, rfl, he ▸ e1⟩
      | succ i => exact ih h.2 (by simpa using he)

theorem drop_fits {t : SetTable} {n i : Nat} (h : t.fits n = true) (hi : i < n) : (t.drop i).fits (n - 1) = true := by
  simp only [SetTable.fits, Bool.and_eq_true, beq_iff_eq, decide_eq_true_eq] at h ⊢
  obtain ⟨h1, h2⟩ := h
  have hp : i < t.place.size := by omega
  have e : t.drop i = { t with place := SetTable.eraseAt t.place i, dummies := SetTable.insertAt t.dummies (SetTable.below t.dummies t.place[i]) t.place[i] } := by
    unfold SetTable.drop
    rw [Array.getElem?_eq_getElem hp]
  have e1 : (SetTable.eraseAt t.place i).size = t.place.size - 1 := by
    rw [← Array.length_toList, eraseAt_list]
    simp; omega
  have e2 : ∀ (p x : Nat), (SetTable.insertAt t.dummies p x).size = t.dummies.size + 1 := fun p x => by
    rw [← Array.length_toList, (SetTable.insertAt_perm t.dummies p x).length_eq, Array.toList_push, List.length_append, Array.length_toList]; rfl
  rw [e]
  refine ⟨by dsimp only; rw [e1, h1], ?_⟩
  unfold SetTable.fill at h2 ⊢
  dsimp only
  rw [e1, e2]
  omega
theorem drop_flags (t : SetTable) (i : Nat) : (t.drop i).plain = t.plain ∧ (t.drop i).led = t.led ∧ (t.drop i).mask = t.mask := by
  unfold SetTable.drop
  split <;> exact ⟨rfl, rfl, rfl⟩

theorem discard_int {c : Bool} {a : Addr} {l : List Int} {k : Int} {tok : Tok} {Q : Bool → Shared → Prop} (hS : ISet w c s.heap a l)
    (h : ∀ h' l', Heap.SameBut a s.heap h' → ISet w false h' a l' → (∀ x, x ∈ l' ↔ x ∈ l ∧ x ≠ k) → Q (decide (k ∈ l)) { s with heap := h' }) :
    wpAny (model prog w) A (setDiscardHashed a (.int k tok) (hashInt k)) Q E s := by
  obtain ⟨es, ep, t, ho, O⟩ := hS
  have hel : ElemsOf (intKind prog w) es.toList := O.ents.elems
  have hkey : (intKind prog w).is k (.int k tok) = true := by simp [intKind, Value.isInt]
  have hlen : es.size = l.length := by rw [← Array.length_toList, O.ents.length]
  have h6 := nodup_six O.nodup O.six
  have hb : es.size < scanBound := by rw [hlen]; exact Nat.lt_of_le_of_lt h6 (by decide)
  unfold setDiscardHashed setFind setFindIn
  refine wpAny_bind ?_
  refine wpAny_bind (wpAny_setState_of ho rfl O.fits ?_)
  dsimp only
  rw [byScan_of (knd := intKind prog w) rfl hb hel]
  simp only [↓reduceIte]
  refine wpAny_bind (wpAny_rule ?_)
  refine wpAny_bind (wpAny_setScan_of (knd := intKind prog w) hkey ho rfl O.fits hel ?_)
  cases hr : List.findIdx? (fun e => (intKind prog w).is k e.2) es.toList with
  | none =>
    dsimp only
    have hm : k ∉ l := fun q => by
      obtain ⟨e, he, hp⟩ := (O.ents.mem_iff (prog := prog) (w := w) k).mp q
      have := List.findIdx?_eq_none_iff.mp hr e he
      rw [hp] at this; cases this
    rw [decide_eq_false hm] at h
    refine wpAny_pure (wpAny_pure (h s.heap l (Heap.SameBut.refl a s.heap) ⟨es, ep, t, ho, { O with clean := fun x => nomatch x }⟩ fun x => ⟨fun q => ⟨q, fun e => hm (e ▸ q)⟩, fun q => q.1⟩))
  | some j =>
    dsimp only
    obtain ⟨hj, hpj, _⟩ := List.findIdx?_eq_some_iff_getElem.mp hr
    have hj' : j < es.size := by simpa using hj
    obtain ⟨k', tok', hk', he⟩ := O.ents.get (List.getElem?_eq_getElem hj)
    have hkk : k' = k := by rw [he] at hpj; simpa [intKind, Value.isInt] using hpj
    subst hkk
    have hm : k' ∈ l := List.mem_of_getElem? hk'
    rw [decide_eq_true hm] at h
    have hs : l = l.take j ++ k' :: l.drop (j + 1) := by
      obtain ⟨hl, e⟩ := List.getElem?_eq_some_iff.mp hk'
      rw [← e, ← List.drop_eq_getElem_cons hl, List.take_append_drop]
    have hents : IntEs (SetTable.eraseAt es j).toList ((SetTable.eraseAt es j).toList.map keyOf) := intEs_of fun e he => by
      rw [eraseAt_list] at he
      have : e ∈ es.toList := by
        rcases List.mem_append.mp he with q | q
        · exact List.mem_of_mem_take q
        · exact List.mem_of_mem_drop q
      obtain ⟨k, tok, _, z⟩ := O.ents.map e this
      exact ⟨k, tok, z⟩
    have hl' : (SetTable.eraseAt es j).toList.map keyOf = l.take j ++ l.drop (j + 1) := by
      rw [eraseAt_list, List.map_append, List.map_take, List.map_drop, ← O.ents.eq_map]
    have hnd := O.nodup
    rw [hs, List.nodup_append] at hnd
    obtain ⟨n1, n2, n3⟩ := hnd
    rw [List.nodup_cons] at n2
    have hmem : ∀ x, x ∈ l.take j ++ l.drop (j + 1) ↔ x ∈ l ∧ x ≠ k' := fun x => by
      constructor
      · intro hx
        rcases List.mem_append.mp hx with q | q
        · exact ⟨List.mem_of_mem_take q, n3 x q k' (.head _)⟩
        · exact ⟨List.mem_of_mem_drop q, fun e => n2.1 (e ▸ q)⟩
      · rintro ⟨hx, hne⟩
        rw [hs] at hx
        rcases List.mem_append.mp hx with q | q
        · exact List.mem_append_left _ q
        · rcases List.mem_cons.mp q with q | q
          · exact absurd q hne
          · exact List.mem_append_right _ q
    refine wpAny_pure ?_
    simp only [Nat.zero_add]
    refine wpAny_bind (wpAny_setState_of ho rfl O.fits ?_)
    dsimp only
    have hsz : (SetTable.eraseAt es j).size = es.size - 1 := by
      rw [← Array.length_toList, eraseAt_list]; simp; omega
    refine wpAny_bind (wpAny_storeSet_of ho rfl ?_ (by rw [sizeLine_eq, hsz]; omega))
    refine wpAny_bind (wpAny_point (wpAny_pure ?_))
    obtain ⟨f1, f2, f3⟩ := drop_flags t j
    refine h _ _ (Heap.SameBut.update s.heap a _) ⟨_, _, _, get_set ho _ _, by rw [f1, O.plain], by rw [f2, O.led], by rw [hsz]; exact drop_fits O.fits hj', hents, ?_, fun x hx => O.six x ?_, fun x => nomatch x⟩ ?_
    · rw [hl', List.nodup_append]
      exact ⟨n1, n2.2, fun x hx y hy => n3 x hx y (.tail _ hy)⟩
    · rw [hl'] at hx
      exact ((hmem x).mp hx).1
    · intro x; rw [hl']; exact hmem x
end
end Mine
end

section
open PySem
set_option Elab.async false
set_option maxRecDepth 100000
namespace Mine

theorem pick_go {α : Type} (next : Nat → Nat) : ∀ (n k : Nat) (left : List α) (out : Array α), left.length ≤ n →
    (pickOrder.go next n k left out).toList.Perm (out.toList ++ left) := by
  intro n
  induction n with
  | zero =>
    intro k left out h
    have : left = [] := List.length_eq_zero_iff.mp (by omega)
    subst this
    simp [pickOrder.go]
  | succ n ih =>
    intro k left out h
    unfold pickOrder.go
    cases hl : left[next k % left.length]? with
    | none =>
      have : left = [] := by
        cases left with
        | nil => rfl
        | cons x l =>
          have : next k % (x :: l).length < (x :: l).length := Nat.mod_lt _ (by simp)
          rw [List.getElem?_eq_getElem this] at hl; cases hl
      subst this
      simp
    | some x =>
      dsimp only
      obtain ⟨hlt, hx⟩ := List.getElem?_eq_some_iff.mp hl
      refine (ih _ _ _ (by rw [List.length_eraseIdx_of_lt hlt]; omega)).trans ?_
      rw [Array.toList_push, List.append_assoc]
      refine List.Perm.append_left _ ?_
      have hs : left = left.take (next k % left.length) ++ x :: left.drop (next k % left.length + 1) := by
        rw [← hx, ← List.drop_eq_getElem_cons hlt, List.take_append_drop]
      have he : left.eraseIdx (next k % left.length) = left.take (next k % left.length) ++ left.drop (next k % left.length + 1) := List.eraseIdx_eq_take_drop_succ ..
      rw [he]
      refine (List.Perm.symm ?_)
      calc List.Perm left (left.take (next k % left.length) ++ x :: left.drop (next k % left.length + 1)) := by rw [← hs]
        List.Perm _ (x :: (left.take (next k % left.length) ++ left.drop (next k % left.length + 1))) := List.perm_middle
theorem pick_perm {α : Type} (next : Nat → Nat) (xs : Array α) : (pickOrder next xs).toList.Perm xs.toList := by
  unfold pickOrder
  exact (pick_go next xs.size 0 xs.toList #[] (by simp)).trans (by simp)

/-- the order in which a set is walked -/
def ordE (w : World) (a : Addr) (ep : Nat) (es : Array (Int × Value)) : Array (Int × Value) := if byText w then pickOrder (w.params.setOrder a ep) es else es
theorem ordE_perm (w : World) (a : Addr) (ep : Nat) (es : Array (Int × Value)) : (ordE w a ep es).toList.Perm es.toList := by
  unfold ordE
  split
  · exact pick_perm _ _
  · exact .refl _
theorem ordE_size (w : World) (a : Addr) (ep : Nat) (es : Array (Int × Value)) : (ordE w a ep es).size = es.size := by
  rw [← Array.length_toList, (ordE_perm w a ep es).length_eq, Array.length_toList]

/-- an end that raises StopIteration has no cycle to cut -/
def Quiet (A : Around) (h : Heap) : Prop := A.handled = none ∨ ∃ x o vs, A.handled = some (.ref x) ∧ h.get? x = some o ∧ o.data = .fields vs ∧ vs[2]? = some .none
theorem Quiet.at {A : Around} {h h' : Heap} (q : Quiet A h) (k : ∀ b o, h.get? b = some o → h'.get? b = some o) : Quiet A h' := by
  rcases q with q | ⟨x, o, vs, a, b, c, d⟩
  · exact .inl q
  · exact .inr ⟨x, o, vs, a, k _ _ b, c, d⟩

theorem entry_unchain : entryFor table "proto.unchain" = some Builtin.«proto.unchain» := entryFor_of_tree (by kernel_rfl)
theorem plain_unchain : plainId "proto.unchain" = true := by decide +kernel

section
variable {prog : Program} {w : World} {A : Around} {E : Value → Shared → Prop} {s : Shared}

theorem raise_stop {α : Type} {Q : α → Shared → Prop} (q : Quiet A s.heap)
    (h : ∀ e h', (∀ b o, s.heap.get? b = some o → h'.get? b = some o) → (∃ o, h'.get? e = some o ∧ o.cls = .type "StopIteration") → E (.ref e) { s with heap := h' }) :
    wpAny (model prog w) A (newExc (.type "StopIteration") [] >>= fun e => raiseNew e) Q E s := by
  refine wpAny_bind ?_
  simp only [newExc, newTuple]
  refine wpAny_bind (wpAny_newObj_type ?_ (by size_fits))
  refine wpAny_bind (m := firstArgMember _ _) (wpAny_of_eq (a := Value.none) (by first | rfl | (simp only [firstArgMember]; rfl)) ?_)
  refine wpAny_newObj_type ?_ (by size_fits)
  simp only [raiseNew]
  have keep : ∀ o2 b o, s.heap.get? b = some o → ((s.heap.push { cls := .type "tuple", data := .seq #[] }).push o2).get? b = some o := fun _ b o e => Heap.get?_push_of_some _ (Heap.get?_push_of_some _ e)
  rcases q with q | ⟨x, o, vs, hx, ho, hd, hv⟩
  · refine wpAny_bind (wpAny_handled ?_)
    rw [q]
    exact wpAny_throw (h _ _ (keep _) ⟨_, Heap.get?_push_size _ rfl, rfl⟩)
  · refine wpAny_bind (wpAny_handled ?_)
    rw [hx]
    dsimp only
    have hne : (Value.ref x != Value.ref (s.heap.push { cls := .type "tuple", data := .seq #[] }).objs.size) = true := by
      have h1 := Heap.lt_size ho
      have h2 : x ≠ (s.heap.push { cls := .type "tuple", data := .seq #[] }).objs.size := Nat.ne_of_lt (by rw [Heap.size_push]; exact Nat.lt_succ_of_lt h1)
      rw [bne_iff_ne]
      exact fun e => h2 (Value.ref.inj e)
    rw [if_pos hne]
    refine wpAny_bind (wpAny_holding (wpAny_runValue (codeAny_builtin entry_unchain ?_)))
    rw [Around.under_plainId plain_unchain _]
    unfold Builtin.«proto.unchain»
    refine wpAny_bind (wpAny_field (keep _ _ _ ho) hd hv ?_)
    simp only [beq_self_eq_true, ↓reduceIte]
    refine wpAny_pure ?_
    dsimp only
    refine wpAny_bind ?_
    unfold updateField
    refine wpAny_bind (m := PySem.load _) (wpAny_load (Heap.get?_push_size _ rfl) ?_)
    dsimp only
    rw [if_pos (by rw [Array.size_append]; exact Nat.lt_of_lt_of_le (by decide : 2 < 6) (Nat.le_add_right _ _))]
    refine wpAny_update (Heap.get?_push_size _ rfl) ?_
    refine wpAny_throw (h _ _ (fun b o' e => ?_) ⟨_, Heap.get?_update_self _ (Heap.get?_push_size _ rfl) rfl, rfl⟩)
    rw [Heap.get?_update_other _ _ (Nat.ne_of_gt (by rw [Heap.size_push]; exact Nat.lt_succ_of_lt (Heap.lt_size e)))]
    exact keep _ b o' e
end

/-- a name that stands for another entry, looked up in the tree -/
theorem alias_tree {id id' : String} {b : Builtin} (h1 : entriesT.find (PySem.code id) = none) (h2 : id.cutAt '#' = [id])
    (h3 : Manifest.canonical (String.map (fun c => if (c.isAlphanum || c == '_' || c == '.') = true then c else '_') id) ++ "" = id') (h4 : entriesT.find (PySem.code id') = some b) : entryFor table id = some b :=
  entryFor_alias (by rw [fastTable_eq_tree]; exact h1) h2 h3 (by rw [fastTable_eq_tree]; exact h4)
namespace SI
set_option maxRecDepth 100000
theorem slot_next : Slot "set_iterator" "__next__" "set_iterator.__next__" :=
  .of (owner := "set_iterator") (n := "__next__") (by rw [typeLookup_type, builtinLookup_eq_fast]; kernel_rfl) (by decide +kernel) (by decide +kernel) (by decide +kernel)
    (by first | exact .inl (by decide +kernel) | exact .inr (by decide +kernel)) (by rw [isSubtype_type]; kernel_rfl)
theorem entry_next : entryFor table "set_iterator.__next__" = some Builtin.«set_iterator.__next__» := entryFor_of_tree (by kernel_rfl)
theorem args_next (a : Value) : argsOk "set_iterator.__next__" ⟨[a], []⟩ := by unfold argsOk; kernel_rfl
theorem slot_iter : Slot "set_iterator" "__iter__" "set_iterator.__iter__" :=
  .of (owner := "set_iterator") (n := "__iter__") (by rw [typeLookup_type, builtinLookup_eq_fast]; kernel_rfl) (by decide +kernel) (by decide +kernel) (by decide +kernel)
    (by first | exact .inl (by decide +kernel) | exact .inr (by decide +kernel)) (by rw [isSubtype_type]; kernel_rfl)
theorem entry_iter : entryFor table "set_iterator.__iter__" = some Builtin.«dict_keyiterator.__iter__» :=
  alias_tree (id' := "dict_keyiterator.__iter__") (by kernel_rfl) rfl (by decide +kernel) (by kernel_rfl)
theorem args_iter (a : Value) : argsOk "set_iterator.__iter__" ⟨[a], []⟩ := by unfold argsOk; kernel_rfl
theorem entry_set_iter : entryFor table "set.__iter__" = some Builtin.«frozenset.__iter__» :=
  alias_tree (id' := "frozenset.__iter__") (by kernel_rfl) rfl (by decide +kernel) (by kernel_rfl)
end SI
end Mine
end

section
open PySem
set_option Elab.async false
set_option maxRecDepth 100000
namespace Mine

/-- a set that is walked: what its road asks -/
structure WOk (w : World) (es : Array (Int × Value)) (t : SetTable) : Prop where
  plain : t.plain = true
  led : t.led = !byText w
  fits : t.fits es.size = true
  ok : TabOk t es.size

def slotAt (w : World) (t : SetTable) (i : Nat) : Nat := if byText w then 0 else if i = 0 then 0 else t.place.getD (i - 1) 0 + 1
@[reducible] def iterO (w : World) (a : Addr) (n ep : Nat) (t : SetTable) (i : Nat) : Obj :=
  { cls := .type "set_iterator", data := .fields #[.int (slotAt w t i) 0, .int i 0, .ref a, .int n 0, .int ep 0] }

theorem below_at {t : SetTable} {n i : Nat} (h : TabOk t n) (hi : i ≤ n) : SetTable.below t.place (if i = 0 then 0 else t.place.getD (i - 1) 0 + 1) = i := by
  obtain ⟨h1, h2, h3⟩ := below_spec t.place h.rise (if i = 0 then 0 else t.place.getD (i - 1) 0 + 1)
  have hs := h.size
  generalize hb : SetTable.below t.place (if i = 0 then 0 else t.place.getD (i - 1) 0 + 1) = b at *
  have mono : ∀ x y, x < y → y < t.place.size → t.place.getD x 0 < t.place.getD y 0 := by
    intro x y hxy hy
    have := List.pairwise_iff_getElem.mp h.rise x y (by simpa using Nat.lt_trans hxy hy) (by simpa using hy) hxy
    simp [Array.getD, hy, Nat.lt_trans hxy hy]
    simpa using this
  by_cases h0 : i = 0
  · subst h0
    rw [if_pos rfl] at h2
    rcases Nat.eq_zero_or_pos b with q | q
    · exact q
    · exact absurd (h2 0 q) (Nat.not_lt_zero _)
  · rw [if_neg h0] at h2 h3
    rcases Nat.lt_trichotomy b i with q | q | q
    · have := h3 (i - 1) (by omega) (by omega)
      omega
    · exact q
    · have x1 := h2 i q
      have x2 := mono (i - 1) i (by omega) (by omega)
      omega

section
variable {prog : Program} {w : World} {A : Around} {E : Value → Shared → Prop} {s : Shared} {a I : Addr} {es : Array (Int × Value)} {ep : Nat} {t : SetTable}

theorem pyIter_set {Q : Value → Shared → Prop} (ho : s.heap.get? a = some (setO es ep t)) (W : WOk w es t)
    (h : Q (.ref s.heap.objs.size) { s with heap := s.heap.push (iterO w a es.size ep t 0) }) : wpAny (model prog w) A (pyIter (.ref a)) Q E s := by
  have hT : s.TypeIs (.ref a) "set" := ⟨_, ho, rfl⟩
  refine wpAny_pyIter_slot hT F.slot_set_iter (wpAny_call_entry F.slot_set_iter hT SI.entry_set_iter ?_ (F.args_set_iter_1 _))
  unfold Builtin.«frozenset.__iter__» Builtin.Frozenset.slot0 Builtin.Frozenset.addrOf Builtin.Frozenset.sizeOf
  refine wpAny_bind (wpAny_bind (wpAny_pure (wpAny_pure ?_)))
  refine wpAny_bind (wpAny_bind (wpAny_setEntries_of ho rfl W.fits (wpAny_pure ?_)))
  refine wpAny_bind ?_
  unfold setDrawn setsByText
  refine wpAny_bind (wpAny_setState_of ho rfl W.fits ?_)
  refine wpAny_bind (wpAny_bind (wpAny_askSetting (wpAny_pure ?_)))
  refine wpAny_pure ?_
  have hd : (!(w.params.followText "set-order") && (!t.plain && decide (es.size > 1))) = false := by rw [W.plain]; simp
  show wpAny _ _ (if (!(w.params.followText "set-order") && (!t.plain && decide (es.size > 1))) = true then _ else _) _ _ s
  rw [hd]
  simp only [Bool.false_eq_true, ↓reduceIte]
  refine wpAny_bind (wpAny_pure ?_)
  refine wpAny_bind (wpAny_setEpoch_of ho rfl W.fits ?_)
  refine wpAny_bind ?_
  unfold newFields
  refine wpAny_newObj_type ?_ (by size_fits)
  refine wpAny_pure ⟨_, rfl, "set_iterator", _, ⟨_, Heap.get?_push_size _ rfl, rfl⟩, SI.slot_next.lookup, ?_⟩
  have e : slotAt w t 0 = 0 := by unfold slotAt; split <;> simp
  have : iterO w a es.size ep t 0 = { cls := .type "set_iterator", data := .fields [rawInt 0, rawInt 0, .ref a, rawInt es.size, rawInt ep].toArray } := by
    unfold iterO rawInt; rw [e]; rfl
  rw [this] at h
  exact h

theorem setWalk_of {Q : Array (Int × Value) → Shared → Prop} (ho : s.heap.get? a = some (setO es ep t)) (hp : t.plain = true) (hl : t.led = !byText w) (hf : t.fits es.size = true) (h : Q (ordE w a ep es) s) :
    wpAny (model prog w) A (setWalk a) Q E s := by
  unfold setWalk setsByText
  refine wpAny_bind (wpAny_setState_of ho rfl hf ?_)
  refine wpAny_bind (wpAny_bind (wpAny_askSetting (wpAny_pure ?_)))
  show wpAny _ _ (if byText w = true then _ else _) _ _ s
  unfold ordE at h
  by_cases hb : byText w = true
  · rw [if_pos hb] at h ⊢
    exact wpAny_bind (wpAny_askSetting (wpAny_pure h))
  · rw [if_neg hb] at h ⊢
    have hb' : byText w = false := by simpa using hb
    have e : (!t.plain && decide (es.size > 1)) = false := by rw [hp]; rfl
    show wpAny _ _ (if (!t.plain && decide (es.size > 1)) = true then _ else _) _ _ s
    rw [e]
    simp only [Bool.false_eq_true, ↓reduceIte]
    have e2 : (!t.led && decide (es.size > 1)) = false := by rw [hl, hb']; rfl
    refine wpAny_bind ?_
    show wpAny _ _ (if (!t.led && decide (es.size > 1)) = true then _ else _) _ _ s
    rw [e2]
    simp only [Bool.false_eq_true, ↓reduceIte]
    exact wpAny_pure (wpAny_pure h)

theorem setNext_of {i : Nat} {Q : Option (Value × Nat) → Shared → Prop} (ho : s.heap.get? a = some (setO es ep t)) (W : WOk w es t) (hi : i ≤ es.size)
    (h : Q (((ordE w a ep es)[i]?).map fun e => (e.2, slotAt w t (i + 1))) s) : wpAny (model prog w) A (setNext a (slotAt w t i) i ep) Q E s := by
  unfold setNext setsByText
  refine wpAny_bind (wpAny_setState_of ho rfl W.fits ?_)
  refine wpAny_bind (wpAny_bind (wpAny_askSetting (wpAny_pure ?_)))
  show wpAny _ _ (if byText w = true then _ else _) _ _ s
  by_cases hb : byText w = true
  · rw [if_pos hb]
    dsimp only
    rw [if_neg (by simp)]
    refine wpAny_bind (setWalk_of ho W.plain W.led W.fits ?_)
    refine wpAny_pure ?_
    have e : slotAt w t i = slotAt w t (i + 1) := by unfold slotAt; rw [if_pos hb, if_pos hb]
    rw [e]; exact h
  · rw [if_neg hb]
    dsimp only
    have hb' : byText w = false := by simpa using hb
    have e : (!t.plain && decide (es.size > 1)) = false := by rw [W.plain]; rfl
    show wpAny _ _ (if (!t.plain && decide (es.size > 1)) = true then _ else _) _ _ s
    rw [e]
    simp only [Bool.false_eq_true, ↓reduceIte]
    have e2 : (!t.led && !es.isEmpty) = false := by rw [W.led, hb']; rfl
    refine wpAny_bind ?_
    show wpAny _ _ (if (!t.led && !es.isEmpty) = true then _ else _) _ _ s
    rw [e2]
    simp only [Bool.false_eq_true, ↓reduceIte]
    refine wpAny_pure (wpAny_pure ?_)
    have hs : slotAt w t i = if i = 0 then 0 else t.place.getD (i - 1) 0 + 1 := by unfold slotAt; rw [if_neg hb]
    rw [hs, below_at W.ok hi]
    have ho2 : ordE w a ep es = es := by unfold ordE; rw [if_neg hb]
    rw [ho2] at h
    by_cases hlt : i < es.size
    · have hlt' : i < t.place.size := by rw [W.ok.size]; exact hlt
      rw [Array.getElem?_eq_getElem hlt, Array.getElem?_eq_getElem hlt']
      rw [Array.getElem?_eq_getElem hlt] at h
      have e3 : slotAt w t (i + 1) = t.place[i] + 1 := by
        unfold slotAt; rw [if_neg hb, if_neg (Nat.succ_ne_zero i)]; simp [Array.getD, hlt']
      rw [e3] at h
      exact h
    · have h1 : es[i]? = none := Array.getElem?_eq_none (by omega)
      rw [h1] at h ⊢
      exact h

theorem pyNext_set_item {i : Nat} {x : Int × Value} {Q : Option Value → Shared → Prop} (ho : s.heap.get? a = some (setO es ep t)) (W : WOk w es t)
    (hI : s.heap.get? I = some (iterO w a es.size ep t i)) (hx : (ordE w a ep es)[i]? = some x)
    (h : ∀ h', h'.get? I = some (iterO w a es.size ep t (i + 1)) → Heap.SameBut I s.heap h' → Q (some x.2) { s with heap := h' }) :
    wpAny (model prog w) A (pyNext (.ref I)) Q E s := by
  have hT : s.TypeIs (.ref I) "set_iterator" := ⟨_, hI, rfl⟩
  have hlt : i < es.size := by
    obtain ⟨q, _⟩ := Array.getElem?_eq_some_iff.mp hx
    rwa [ordE_size] at q
  unfold pyNext
  refine wpAny_bind (wpAny_attempt (wpAny_callSpecial?_slot (name := Str.ofString "__next__") hT SI.slot_next
    (wpAny_call_entry SI.slot_next hT SI.entry_next ?_ (SI.args_next _))))
  unfold Builtin.«set_iterator.__next__»
  refine wpAny_bind (wpAny_pure ?_)
  refine wpAny_bind (wpAny_fieldsOf hI rfl ?_)
  dsimp only
  refine wpAny_bind (wpAny_setEntries_of ho rfl W.fits ?_)
  rw [if_neg (by simp)]
  refine wpAny_bind ?_
  simp only [Int.toNat_natCast]
  refine setNext_of ho W (Nat.le_of_lt hlt) ?_
  rw [hx]
  dsimp only [Option.map]
  refine wpAny_bind (wpAny_setField hI rfl (by simp) ?_)
  have hI1 := Heap.get?_update_self (Obj.mapFields (·.setIfInBounds 0 (rawInt (slotAt w t (i + 1) : Nat)))) hI rfl
  refine wpAny_bind (wpAny_setField (s := { s with heap := _ }) hI1 rfl (by simp) ?_)
  have hI2 := Heap.get?_update_self (Obj.mapFields (·.setIfInBounds 1 (rawInt ((i : Int) + 1)))) hI1 rfl
  refine wpAny_pure ⟨_, rfl, wpAny_pure (h _ ?_ ((Heap.SameBut.update ..).trans (Heap.SameBut.update ..)))⟩
  rw [hI2]
  rfl

theorem pyNext_set_end {Q : Option Value → Shared → Prop} (ho : s.heap.get? a = some (setO es ep t)) (W : WOk w es t)
    (hI : s.heap.get? I = some (iterO w a es.size ep t es.size)) (hq : ∀ h', Heap.SameBut I s.heap h' → Quiet A h')
    (h : ∀ h', Heap.ExtBut I s.heap h' → Q none { s with heap := h' }) :
    wpAny (model prog w) A (pyNext (.ref I)) Q E s := by
  have hT : s.TypeIs (.ref I) "set_iterator" := ⟨_, hI, rfl⟩
  unfold pyNext
  refine wpAny_bind (wpAny_attempt (wpAny_callSpecial?_slot (name := Str.ofString "__next__") hT SI.slot_next
    (wpAny_call_entry SI.slot_next hT SI.entry_next ?_ (SI.args_next _))))
  unfold Builtin.«set_iterator.__next__»
  refine wpAny_bind (wpAny_pure ?_)
  refine wpAny_bind (wpAny_fieldsOf hI rfl ?_)
  dsimp only
  refine wpAny_bind (wpAny_setEntries_of ho rfl W.fits ?_)
  rw [if_neg (by simp)]
  refine wpAny_bind ?_
  simp only [Int.toNat_natCast]
  refine setNext_of ho W (Nat.le_refl _) ?_
  have : (ordE w a ep es)[es.size]? = none := Array.getElem?_eq_none (by rw [ordE_size]; exact Nat.le_refl _)
  rw [this]
  dsimp only [Option.map]
  refine wpAny_bind (wpAny_setField hI rfl (by simp) ?_)
  refine raise_stop (A := A.in1) (hq _ (Heap.SameBut.update ..)) fun e h' k he => ?_
  obtain ⟨oe, he1, he2⟩ := he
  refine wpAny_bind (wpAny_isInstance (T := "StopIteration") (b := true) ⟨_, he1, he2⟩ isSubtype_stop ?_)
  exact wpAny_pure (h _ fun b o' hb e => k b o' ((Heap.SameBut.update ..).extBut b o' hb e))

theorem pyIter_setiter {i n : Nat} {Q : Value → Shared → Prop} (hI : s.heap.get? I = some (iterO w a n ep t i)) (h : Q (.ref I) s) : wpAny (model prog w) A (pyIter (.ref I)) Q E s := by
  have hT : s.TypeIs (.ref I) "set_iterator" := ⟨_, hI, rfl⟩
  refine wpAny_pyIter_slot hT SI.slot_iter (wpAny_call_entry SI.slot_iter hT SI.entry_iter ?_ (SI.args_iter _))
  show wpAny _ _ (ret (.ref I)) _ _ s
  exact wpAny_pure ⟨_, rfl, "set_iterator", _, hT, SI.slot_next.lookup, h⟩

def qfp (A : Around) : List Addr := match A.handled with | some (.ref x) => [x] | _ => []
theorem Quiet.on {A : Around} {h h' : Heap} (q : Quiet A h) (k : ∀ b, b ∈ qfp A → ∀ o, h.get? b = some o → h'.get? b = some o) : Quiet A h' := by
  rcases q with q | ⟨x, o, vs, a, b, c, d⟩
  · exact .inl q
  · exact .inr ⟨x, o, vs, a, k x (by simp [qfp, a]) _ b, c, d⟩
theorem Quiet.upd {A : Around} {h h' : Heap} (q : Quiet A h) {I : Addr} {o : Obj} {vs : Array Value} (hI : h.get? I = some o) (hd : o.data = .fields vs) (hv : vs[2]? ≠ some .none) (hs : Heap.SameBut I h h') : Quiet A h' := by
  rcases q with q | ⟨x, ox, vx, a, b, c, d⟩
  · exact .inl q
  · refine .inr ⟨x, ox, vx, a, ?_, c, d⟩
    rw [hs.2 x ?_]; exact b
    rintro rfl
    rw [hI] at b
    cases b
    rw [hd] at c
    cases c
    exact hv d

/-- a set, walked -/
theorem setWalks (W : WOk w es t) (hne : a ≠ I) : Walks prog w A I (I :: a :: qfp A) [I] es.size (fun i v => ∃ x, (ordE w a ep es)[i]? = some x ∧ v = x.2)
    (fun i h => h.get? I = some (iterO w a es.size ep t i) ∧ h.get? a = some (setO es ep t) ∧ Quiet A h) where
  sub := fun b hb => by rw [List.mem_singleton] at hb; rw [hb]; exact .head _
  frame := fun i h h' st hk => ⟨hk I (.head _) _ st.1, hk a (.tail _ (.head _)) _ st.2.1, st.2.2.on fun b hb o e => hk b (.tail _ (.tail _ hb)) o e⟩
  item := fun i s Q E hi st hQ => by
    have hx : (ordE w a ep es)[i]? = some ((ordE w a ep es)[i]'(by rw [ordE_size]; exact hi)) := Array.getElem?_eq_getElem _
    refine pyNext_set_item st.2.1 W st.1 hx fun h' hI' hs => ?_
    exact hQ _ h' s.toks ⟨_, hx, rfl⟩ ⟨hI', (hs.2 a hne).trans st.2.1, st.2.2.upd st.1 rfl (by simp) hs⟩ fun b o hb e => hs.extBut b o (fun q => hb (q ▸ List.mem_singleton.mpr rfl)) e
  done := fun s Q E st hQ => pyNext_set_end st.2.1 W st.1 (fun h' hs => st.2.2.upd st.1 rfl (by simp) hs) fun h' he => hQ h' s.toks fun b o hb e => he b o (fun q => hb (q ▸ List.mem_singleton.mpr rfl)) e
  self := fun i s Q E st hQ => pyIter_setiter st.1 hQ
end
end Mine
end

section
open PySem PyProof.Rows
set_option Elab.async false
set_option maxRecDepth 100000
namespace Mine

/-- all but these stand as they stood -/
def Upto (xs : List Addr) (h h' : Heap) : Prop := ∀ b o, b ∉ xs → h.get? b = some o → h'.get? b = some o
theorem Upto.refl (xs : List Addr) (h : Heap) : Upto xs h h := fun _ _ _ e => e
theorem Upto.trans {xs : List Addr} {h1 h2 h3 : Heap} (x : Upto xs h1 h2) (y : Upto xs h2 h3) : Upto xs h1 h3 := fun b o hb e => y b o hb (x b o hb e)
theorem Upto.mono {xs ys : List Addr} {h h' : Heap} (x : Upto xs h h') (s : ∀ b, b ∈ xs → b ∈ ys) : Upto ys h h' := fun b o hb e => x b o (fun q => hb (s b q)) e
theorem Upto.same {xs : List Addr} {a : Addr} {h h' : Heap} (x : Heap.SameBut a h h') (ha : a ∈ xs) : Upto xs h h' := fun b o hb e => (x.2 b fun q => hb (q ▸ ha)).trans e
theorem Upto.push {xs : List Addr} {h : Heap} (o : Obj) : Upto xs h (h.push o) := fun _ _ _ e => Heap.get?_push_of_some _ e
theorem Upto.at {xs : List Addr} {h h' : Heap} (x : Upto xs h h') {b : Addr} {o : Obj} (e : h.get? b = some o) (hb : b ∉ xs) : h'.get? b = some o := x b o hb e
/-- what was not there before does not matter -/
theorem Upto.cut {xs : List Addr} {a : Addr} {h h' : Heap} (x : Upto (a :: xs) h h') (ha : h.get? a = none) : Upto xs h h' := fun b o hb e => x b o (fun q => by
  rcases List.mem_cons.mp q with rfl | q
  · rw [ha] at e; cases e
  · exact hb q) e
theorem get_none_size {h : Heap} : h.get? h.objs.size = none := by
  cases e : h.get? h.objs.size with
  | none => rfl
  | some o => exact absurd (Heap.lt_size e) (Nat.lt_irrefl _)
theorem ISet.at {w : World} {c : Bool} {h h' : Heap} {a : Addr} {l : List Int} {xs : List Addr} (H : ISet w c h a l) (x : Upto xs h h') (ha : a ∉ xs) : ISet w c h' a l :=
  let ⟨es, ep, t, ho, O⟩ := H; ⟨es, ep, t, x.at ho ha, O⟩
theorem ISet.weak {w : World} {c : Bool} {h : Heap} {a : Addr} {l : List Int} (H : ISet w true h a l) : ISet w c h a l :=
  let ⟨es, ep, t, ho, O⟩ := H; ⟨es, ep, t, ho, { O with clean := fun _ => O.clean rfl }⟩
theorem ISet.nodup {w : World} {c : Bool} {h : Heap} {a : Addr} {l : List Int} (H : ISet w c h a l) : l.Nodup := let ⟨_, _, _, _, O⟩ := H; O.nodup
theorem ISet.six {w : World} {c : Bool} {h : Heap} {a : Addr} {l : List Int} (H : ISet w c h a l) : ∀ k, k ∈ l → k ∈ six := let ⟨_, _, _, _, O⟩ := H; O.six
theorem ISet.len {w : World} {c : Bool} {h : Heap} {a : Addr} {l : List Int} (H : ISet w c h a l) : l.length ≤ 6 := nodup_six H.nodup H.six
theorem ISet.type {w : World} {c : Bool} {s : Shared} {a : Addr} {l : List Int} (H : ISet w c s.heap a l) : s.TypeIs (.ref a) "set" := let ⟨_, _, _, ho, _⟩ := H; ⟨_, ho, rfl⟩
theorem ISet.noDict {w : World} {c : Bool} {s : Shared} {a : Addr} {l : List Int} (H : ISet w c s.heap a l) : ∀ b, Value.ref a = .ref b → ∃ o, s.heap.get? b = some o ∧ o.dict = none :=
  fun b e => by injection e with e; subst e; exact let ⟨_, _, _, ho, _⟩ := H; ⟨_, ho, rfl⟩

section
variable {prog : Program} {w : World} {A : Around} {E : Value → Shared → Prop} {s : Shared} {a I : Addr}

theorem setAdd_int {l : List Int} {k : Int} {tok : Tok} {Q : Bool → Shared → Prop} (hS : ISet w true s.heap a l) (hk : k ∈ six)
    (h : ∀ h' l' b, Heap.SameBut a s.heap h' → ISet w true h' a l' → (∀ x, x ∈ l' ↔ x ∈ l ∨ x = k) → Q b { s with heap := h', toks := s.toks + 1 }) :
    wpAny (model prog w) A (setAdd a (.int k tok)) Q E s := by
  unfold setAdd
  refine wpAny_holding (wpAny_bind ((intKind prog w).pyHash (k := k) (intKind_is _ _ _ _) ?_))
  exact add_int (s := { s with toks := s.toks + 1 }) hS hk fun h' l' x y z => h h' l' _ x y z

theorem setDiscard_int {c : Bool} {l : List Int} {k : Int} {tok : Tok} {Q : Bool → Shared → Prop} (hS : ISet w c s.heap a l)
    (h : ∀ h' l', Heap.SameBut a s.heap h' → ISet w false h' a l' → (∀ x, x ∈ l' ↔ x ∈ l ∧ x ≠ k) → Q (decide (k ∈ l)) { s with heap := h', toks := s.toks + 1 }) :
    wpAny (model prog w) A (setDiscard a (.int k tok)) Q E s := by
  unfold setDiscard
  refine wpAny_holding (wpAny_bind ((intKind prog w).pyHash (k := k) (intKind_is _ _ _ _) ?_))
  exact discard_int (s := { s with toks := s.toks + 1 }) hS h

/-- s.add(v) -/
theorem method_add {c : Bool} {l : List Int} {pl : Sem Bool} {Q : Value × List Value → Shared → Prop} (hS : ISet w c s.heap a l) (h : Q (.builtin "set.add", [.ref a]) s) :
    wpAny (model prog w) A (getMethod (.ref a) "add" pl) Q E s := getMethod_builtin hS.type PySem.F.plainAttrs_set PySem.F.slot_set_add PySem.F.type_set_add hS.noDict h
theorem call_add {l : List Int} {k : Int} {tok : Tok} {Q : Value → Shared → Prop} (hS : ISet w true s.heap a l) (hk : k ∈ six)
    (h : ∀ h' l', Heap.SameBut a s.heap h' → ISet w true h' a l' → (∀ x, x ∈ l' ↔ x ∈ l ∨ x = k) → Q .none { s with heap := h', toks := s.toks + 1 }) :
    wpAny (model prog w) A (call (.builtin "set.add") [.ref a, .int k tok]) Q E s := by
  refine wpAny_call_entry PySem.F.slot_set_add hS.type PySem.F.entry_set_add ?_ (PySem.F.args_set_add_2 _ _)
  unfold Builtin.«set.add» Builtin.Frozenset.oneOther Builtin.Frozenset.addrOf
  refine wpAny_bind (wpAny_bind (wpAny_pure (wpAny_pure ?_)))
  dsimp only
  refine wpAny_bind (setAdd_int hS hk fun h' l' _ x y z => ?_)
  exact wpAny_pure ⟨_, rfl, h h' l' x y z⟩

/-- s.remove(v), v in it -/
theorem method_remove {c : Bool} {l : List Int} {pl : Sem Bool} {Q : Value × List Value → Shared → Prop} (hS : ISet w c s.heap a l) (h : Q (.builtin "set.remove", [.ref a]) s) :
    wpAny (model prog w) A (getMethod (.ref a) "remove" pl) Q E s := getMethod_builtin hS.type PySem.F.plainAttrs_set PySem.F.slot_set_remove PySem.F.type_set_remove hS.noDict h
theorem call_remove {c : Bool} {l : List Int} {k : Int} {tok : Tok} {Q : Value → Shared → Prop} (hS : ISet w c s.heap a l) (hk : k ∈ l)
    (h : ∀ h' l', Heap.SameBut a s.heap h' → ISet w false h' a l' → (∀ x, x ∈ l' ↔ x ∈ l ∧ x ≠ k) → Q .none { s with heap := h', toks := s.toks + 1 }) :
    wpAny (model prog w) A (call (.builtin "set.remove") [.ref a, .int k tok]) Q E s := by
  refine wpAny_call_entry PySem.F.slot_set_remove hS.type PySem.F.entry_set_remove ?_ (PySem.F.args_set_remove_2 _ _)
  unfold Builtin.«set.remove» Builtin.Frozenset.oneOther Builtin.Frozenset.addrOf
  refine wpAny_bind (wpAny_bind (wpAny_pure (wpAny_pure ?_)))
  dsimp only
  unfold Builtin.Frozenset.withSetAsKey
  refine wpAny_bind (wpAny_tryCatch (setDiscard_int hS fun h' l' x y z => ?_))
  rw [decide_eq_true hk]
  exact wpAny_pure ⟨_, rfl, h h' l' x y z⟩

/-- the truth of a set -/
theorem noBool_set : typeLookup (.type "set") "__bool__" = pure none := by rw [typeLookup_type, builtinLookup_eq_fast]; kernel_rfl
theorem truthy_set {c : Bool} {l : List Int} {Q : Bool → Shared → Prop} (hS : ISet w c s.heap a l) (h : Q (!l.isEmpty) { s with toks := s.toks + 1 + 1 }) : wpAny (model prog w) A (truthy (.ref a)) Q E s := by
  obtain ⟨es, ep, t, ho, O⟩ := id hS
  have hlen : es.size = l.length := by rw [← Array.length_toList, O.ents.length]
  have h6 := hS.len
  have hne : ((es.size : Int) != 0) = !l.isEmpty := by rw [hlen]; cases l <;> simp; omega
  have key : wpAny (model prog w) A (runValue (.builtin "len" ⟨[.ref a], []⟩)) (fun r s' => r = .int es.size (s.toks + 1) ∧ Q (!l.isEmpty) s') E s := by
    refine wpAny_runValue (codeAny_builtin entry_len ?_)
    rw [Around.under_plainId plain_len _]
    exact wpAny_mono (wpAny_len_body_set (Q := fun r s' => r = .int es.size (s.toks + 1) ∧ Q (!l.isEmpty) s') ho ⟨rfl, rfl, rfl⟩ rfl O.fits (by omega) ⟨rfl, h⟩)
      (fun fin s' h' => by obtain ⟨r, rfl, hq⟩ := h'; exact hq) fun _ _ e => e
  unfold truthy
  first
    | refine wpAny_bind (wpAny_callSpecial?_none (name := Str.ofString "__bool__") hS.type noBool_set ?_)
    | refine wpAny_bind (wpAny_pure (wpAny_bind (wpAny_callSpecial?_none (name := Str.ofString "__bool__") hS.type noBool_set ?_)))
  refine wpAny_bind (wpAny_specialOf (name := Str.ofString "__len__") hS.type PySem.F.slot_set_len.lookup ?_)
  exact wpAny_bind (wpAny_mono key (fun r s' h' => by obtain ⟨rfl, hq⟩ := h'; exact wpAny_pure (hne ▸ hq)) fun _ _ e => e)

theorem update_loop {R : Result → Shared → Prop} {fp wr : List Addr} {n : Nat} {P : Nat → Value → Prop} {St : Nat → Heap → Prop} (W : Walks prog w A.in1 I fp wr n P St) (hSf : a ∉ fp)
    {val : Nat → Int} (hval : ∀ i v, i < n → P i v → ∃ t, v = .int (val i) t ∧ val i ∈ six) :
    ∀ (k i : Nat) (s : Shared) (l : List Int), n - i = k → i ≤ n → St i s.heap → ISet w true s.heap a l →
      (∀ h' tk l', Upto (a :: wr) s.heap h' → ISet w true h' a l' → (∀ x, x ∈ l' ↔ x ∈ l ∨ ∃ j, i ≤ j ∧ j < n ∧ val j = x) → R (.ok (.ret .none)) { s with heap := h', toks := tk }) →
      codeAny (model prog w) A (.builtin "set.update.loop" ⟨[.ref a, .ref I], []⟩) R s := by
  have hSw : a ∉ wr := fun h => hSf (W.sub _ h)
  intro k
  induction k with
  | zero =>
    intro i s l hk hi hst hS hR
    have hin : i = n := by omega
    subst hin
    refine codeAny_builtin F.entry_set_update_loop ?_
    rw [Around.under_plainId F.plain_set_update_loop _]
    show wpAny _ A.in1 (pyNext (.ref I) >>= _) _ _ s
    refine wpAny_bind (W.done s _ _ hst fun h' tk hk' => ?_)
    exact wpAny_pure (hR h' tk l (fun b o hb e => hk' b o (fun q => hb (.tail _ q)) e) (hS.at hk' hSw) fun x => ⟨.inl, fun q => q.elim id fun ⟨j, h1, h2, _⟩ => by omega⟩)
  | succ k ih =>
    intro i s l hk hi hst hS hR
    have hlt : i < n := by omega
    refine codeAny_builtin F.entry_set_update_loop ?_
    rw [Around.under_plainId F.plain_set_update_loop _]
    show wpAny _ A.in1 (pyNext (.ref I) >>= _) _ _ s
    refine wpAny_bind (W.item i s _ _ hlt hst fun v h1 tk1 hP hst1 hk1 => ?_)
    obtain ⟨t, rfl, hv6⟩ := hval i v hlt hP
    refine wpAny_bind (wpAny_holding ?_)
    refine setAdd_int (s := { s with heap := h1, toks := tk1 }) (hS.at hk1 hSw) hv6 fun h2 l2 _ hsb hS2 hm2 => ?_
    refine wpAny_pure ⟨plainId_quiet F.plain_set_update_loop _, ih (i + 1) _ l2 (by omega) hlt (W.frame _ h1 _ hst1 fun b hb o e => ?_) hS2 fun h3 tk3 l3 hu3 hS3 hm3 => ?_⟩
    · rw [hsb.2 b (fun h : b = a => hSf (by rw [← h]; exact hb))]; exact e
    · refine hR h3 tk3 l3 (fun b o hb e => hu3 b o hb ?_) hS3 fun x => ?_
      · exact (hsb.2 b fun q => hb (q ▸ .head _)).trans (hk1 b o (fun q => hb (.tail _ q)) e)
      · rw [hm3, hm2]
        constructor
        · rintro ((q | rfl) | ⟨j, h1, h2, h3⟩)
          · exact .inl q
          · exact .inr ⟨i, Nat.le_refl _, hlt, rfl⟩
          · exact .inr ⟨j, by omega, h2, h3⟩
        · rintro (q | ⟨j, h1, h2, h3⟩)
          · exact .inl (.inl q)
          · rcases Nat.lt_or_eq_of_le h1 with q | q
            · exact .inr ⟨j, q, h2, h3⟩
            · subst q; exact .inl (.inr h3.symm)

theorem entry_diff_loop : entryFor table "set.difference_update.loop" = some Builtin.«set.difference_update.loop» := entryFor_of_tree (by kernel_rfl)
theorem plain_diff_loop : plainId "set.difference_update.loop" = true := by decide +kernel
theorem diff_loop {R : Result → Shared → Prop} {fp wr : List Addr} {n : Nat} {P : Nat → Value → Prop} {St : Nat → Heap → Prop} (W : Walks prog w A.in1 I fp wr n P St) (hSf : a ∉ fp)
    {val : Nat → Int} (hval : ∀ i v, i < n → P i v → ∃ t, v = .int (val i) t) :
    ∀ (k i : Nat) (s : Shared) (l : List Int), n - i = k → i ≤ n → St i s.heap → ISet w false s.heap a l →
      (∀ h' tk l', Upto (a :: wr) s.heap h' → ISet w false h' a l' → (∀ x, x ∈ l' ↔ x ∈ l ∧ ∀ j, i ≤ j → j < n → val j ≠ x) → R (.ok (.ret .none)) { s with heap := h', toks := tk }) →
      codeAny (model prog w) A (.builtin "set.difference_update.loop" ⟨[.ref a, .ref I], []⟩) R s := by
  have hSw : a ∉ wr := fun h => hSf (W.sub _ h)
  intro k
  induction k with
  | zero =>
    intro i s l hk hi hst hS hR
    have hin : i = n := by omega
    subst hin
    refine codeAny_builtin entry_diff_loop ?_
    rw [Around.under_plainId plain_diff_loop _]
    show wpAny _ A.in1 (pyNext (.ref I) >>= _) _ _ s
    refine wpAny_bind (W.done s _ _ hst fun h' tk hk' => ?_)
    exact wpAny_pure (hR h' tk l (fun b o hb e => hk' b o (fun q => hb (.tail _ q)) e) (hS.at hk' hSw) fun x => ⟨fun q => ⟨q, fun j h1 h2 => by omega⟩, fun q => q.1⟩)
  | succ k ih =>
    intro i s l hk hi hst hS hR
    have hlt : i < n := by omega
    refine codeAny_builtin entry_diff_loop ?_
    rw [Around.under_plainId plain_diff_loop _]
    show wpAny _ A.in1 (pyNext (.ref I) >>= _) _ _ s
    refine wpAny_bind (W.item i s _ _ hlt hst fun v h1 tk1 hP hst1 hk1 => ?_)
    obtain ⟨t, rfl⟩ := hval i v hlt hP
    refine wpAny_bind (wpAny_holding ?_)
    refine setDiscard_int (s := { s with heap := h1, toks := tk1 }) (hS.at hk1 hSw) fun h2 l2 hsb hS2 hm2 => ?_
    refine wpAny_pure ⟨plainId_quiet plain_diff_loop _, ih (i + 1) _ l2 (by omega) hlt (W.frame _ h1 _ hst1 fun b hb o e => ?_) hS2 fun h3 tk3 l3 hu3 hS3 hm3 => ?_⟩
    · rw [hsb.2 b (fun h : b = a => hSf (by rw [← h]; exact hb))]; exact e
    · refine hR h3 tk3 l3 (fun b o hb e => hu3 b o hb ?_) hS3 fun x => ?_
      · exact (hsb.2 b fun q => hb (q ▸ .head _)).trans (hk1 b o (fun q => hb (.tail _ q)) e)
      · rw [hm3, hm2]
        constructor
        · rintro ⟨⟨q, hne⟩, hj⟩
          refine ⟨q, fun j h1 h2 => ?_⟩
          rcases Nat.lt_or_eq_of_le h1 with z | z
          · exact hj j z h2
          · subst z; exact fun e => hne e.symm
        · rintro ⟨q, hj⟩
          exact ⟨⟨q, fun e => hj i (Nat.le_refl _) hlt e.symm⟩, fun j h1 h2 => hj j (by omega) h2⟩
end
end Mine
end

section
open PySem PyProof.Rows
set_option Elab.async false
set_option maxRecDepth 100000
namespace Mine
section
variable {prog : Program} {w : World} {A : Around} {E : Value → Shared → Prop} {s : Shared} {a I : Addr}

theorem code_set_led1 (x : Value) {Q₁ : Value → Shared → Prop} (h : Q₁ (.ref s.heap.objs.size) { s with heap := s.heap.push (emptySet w) }) :
    codeAny (model prog w) A (.call (.builtin "set.__new__") ⟨[.type "set", x], []⟩) (wants Q₁ E) s := by
  refine codeAny_of_tree ?_
  show wpAny _ A.in1 (do checkBuiltinCall "set.__new__" ⟨[.type "set", x], []⟩; again (.builtin "set.__new__" ⟨[.type "set", x], []⟩)) _ _ s
  refine wpAny_bind (wpAny_of_eq (PySem.F.newCall_set_1 x) (wpAny_pure ⟨plainId_quiet PySem.F.plain_set_new _, codeAny_builtin PySem.F.entry_set_new ?_⟩))
  rw [Around.under_plainId PySem.F.plain_set_new _]
  unfold Builtin.«set.__new__» Builtin.Frozenset.newClass
  have hsub := sub_set_self
  obtain ⟨hp, g, d, tk, os⟩ := s
  dsimp only
  wp_walk
  refine wpAny_askSetting (wpAny_pure ?_)
  dsimp only
  simp only [newObj]
  exact wpAny_bind (wpAny_alloc (wpAny_pure (wpAny_pure h)))

set_option maxHeartbeats 2000000 in
/-- the call set(x) -/
theorem call_set_1 {x : Value} {Q : Value → Shared → Prop}
    (h : wpAny (model prog w) A.in1.in1 (Builtin.Frozenset.updateFrom "set.__init__" s.heap.objs.size x) (fun _ s2 => Q (.ref s.heap.objs.size) s2) E { s with heap := s.heap.push (emptySet w) }) :
    wpAny (model prog w) A (call (.type "set") [x]) Q E s := by
  obtain ⟨c, tl, hmro⟩ := PySem.F.called_set.mro
  have hmade := PySem.F.called_set.made
  have hsub := PySem.F.called_set.sub
  refine wpAny_call (codeAny_of_tree ?_)
  show wpAny _ _ (callAny (.type "set") _) _ _ _
  refine wpAny_pure ⟨Code.quiet_builtin _ (by decide +kernel), codeAny_builtin PySem.F.entry_type_call ?_⟩
  rw [Around.under_plain (weight_type_call_type "set" [x] []) rfl]
  have h1 := PySem.F.called_set.notType
  have h2 := PySem.F.called_set.canCreate
  have hct := PySem.F.typeCall_set_1 x
  repeat (any_goals (first | assumption | wp_step))
  refine codeAny_mono (code_set_led1 x (E := E) (Q₁ := fun obj s₁ => obj = .ref s.heap.objs.size ∧ s₁ = { s with heap := s.heap.push (emptySet w) }) ⟨rfl, rfl⟩) fun r s₁ hr => ?_
  cases r with
  | error e => exact hr
  | ok fl =>
    cases fl with
    | ret obj =>
      obtain ⟨rfl, rfl⟩ := hr
      have hS : (s.heap.push (emptySet w)).get? s.heap.objs.size = some (emptySet w) := Heap.get?_push_size _ rfl
      have hT : Shared.TypeIs { s with heap := s.heap.push (emptySet w) } (.ref s.heap.objs.size) "set" := ⟨_, hS, rfl⟩
      have hli := PySem.F.called_set.init.lookup
      have hbi := PySem.F.called_set.init.bind (.ref s.heap.objs.size)
      repeat (any_goals (first | assumption | wp_step))
      refine codeAny_mono (codeAny_call_builtin (R := wants (fun r s₂ => r = .none ∧ Q (.ref s.heap.objs.size) s₂) E) PySem.F.called_set.init.plain PySem.F.entry_set_init (check_set_init_1 hT ?_)) fun r₂ s₂ hr₂ => ?_
      · unfold Builtin.«set.__init__» noKeywords
        generalize hU : Builtin.Frozenset.updateFrom = U at h ⊢
        wp_walk
        subst hU
        exact wpAny_mono h (fun _ s2 h2 => wpAny_pure ⟨rfl, h2⟩) fun _ _ e => e
      · cases r₂ with
        | error e => exact hr₂
        | ok fl₂ =>
          cases fl₂ with
          | ret r =>
            obtain ⟨rfl, hq⟩ := hr₂
            repeat (any_goals (first | assumption | wp_step))
          | _ => exact hr₂.elim
    | _ => exact hr.elim
end
end Mine
end

section
open PySem PyProof.Rows
set_option Elab.async false
set_option maxRecDepth 100000
namespace Mine

theorem ris_size {n : Nat} (h : n ≤ 6) : ∃ m, SetTable.sizeAbove (SetTable.grown n) - 1 = m ∧ (m = 7 ∨ m = 15 ∨ m = 31) ∧ n ≤ m ∧ SetTable.sizeAbove (SetTable.grown n) ≤ sizeLine := by
  have : n = 0 ∨ n = 1 ∨ n = 2 ∨ n = 3 ∨ n = 4 ∨ n = 5 ∨ n = 6 := by omega
  rcases this with rfl | rfl | rfl | rfl | rfl | rfl | rfl <;> refine ⟨_, rfl, ?_, ?_, ?_⟩ <;> decide

section
variable {prog : Program} {w : World} {A : Around} {E : Value → Shared → Prop} {s : Shared} {a I : Addr}

/-- a set laid anew -/
theorem relay_core {es : Array (Int × Value)} {ep : Nat} {t : SetTable} {Q : Unit → Shared → Prop} {wanted m : Nat} (ho : s.heap.get? a = some (setO es ep t)) (hf : t.fits es.size = true)
    (hm : SetTable.sizeAbove wanted - 1 = m) (hbig : SetTable.sizeAbove wanted ≤ sizeLine) (hnm : es.size ≤ m) (hz : es.size ≤ sizeLine) (hc : ∀ e, e ∈ es.toList → covR m e.1 = true)
    (h : ∀ es' t', es'.toList.Perm es.toList → TabOk t' es.size → t'.mask = m → t'.plain = t.plain → t'.led = t.led → (s.heap.update a (Obj.putSet es' t')).get? a = some (setO es' (ep + 1) t') →
      Heap.SameBut a s.heap (s.heap.update a (Obj.putSet es' t')) → Q () { s with heap := s.heap.update a (Obj.putSet es' t') }) : wpAny (model prog w) A (setRelay a wanted) Q E s := by
  obtain ⟨t', order, e1, k1, m1, l1, p1, hp⟩ := laid_ok m t.finger (t.movedTo m) t.led t.plain (es.map (·.1)) (by simp; omega) (fun hv hx => by
    rw [Array.toList_map] at hx
    obtain ⟨y, hy, rfl⟩ := List.mem_map.mp hx
    exact hc y hy)
  rw [Array.size_map] at k1 hp
  have hperm := reorder_perm es order hp
  have hsz : (order.filterMap (es[·]?)).size = es.size := by rw [← Array.length_toList, hperm.length_eq, Array.length_toList]
  unfold setRelay
  refine wpAny_bind (wpAny_setState_of ho rfl hf ?_)
  dsimp only
  rw [if_neg (Nat.not_lt.mpr hbig)]
  have hrel : t.relaid (es.map (·.1)) wanted = some (t', order) := by
    unfold SetTable.relaid; rw [hm]; exact e1
  rw [hrel]
  refine wpAny_bind ?_
  show wpAny _ _ (if ((order.filterMap (es[·]?)).size != es.size) = true then _ else _) _ _ s
  rw [if_neg (by rw [hsz]; simp)]
  refine wpAny_pure ?_
  dsimp only
  refine wpAny_storeSet_of ho rfl ?_ (by rw [hsz]; exact hz)
  exact h _ _ hperm k1 m1 p1 l1 (get_set ho _ _) (Heap.SameBut.update s.heap a _)

theorem relay_int {c : Bool} {l : List Int} {Q : Unit → Shared → Prop} {n : Nat} (hS : ISet w c s.heap a l) (hn : n = l.length)
    (h : ∀ h' l', Heap.SameBut a s.heap h' → ISet w false h' a l' → (∀ x, x ∈ l' ↔ x ∈ l) → Q () { s with heap := h' }) : wpAny (model prog w) A (setRelay a (SetTable.grown n)) Q E s := by
  obtain ⟨es, ep, t, ho, O⟩ := id hS
  have hlen : es.size = l.length := by rw [← Array.length_toList, O.ents.length]
  have h6 := hS.len
  obtain ⟨m, hm, hm3, hnm, hbig⟩ := ris_size (n := n) (by omega)
  refine relay_core ho O.fits hm hbig (by omega) (by rw [sizeLine_eq]; omega) (fun y hy => ?_) fun es' t' hperm k1 m1 p1 l1 ho' sb => ?_
  · obtain ⟨k, tok, hk, rfl⟩ := O.ents.map y hy
    exact (goodH_at (good_int (O.six k hk)) hm3).2
  · have hsz : es'.size = es.size := by rw [← Array.length_toList, hperm.length_eq, Array.length_toList]
    have hents : ∀ e, e ∈ es'.toList → ∃ k tok, e = (hashInt k, Value.int k tok) := fun e he => by
      obtain ⟨k, tok, _, z⟩ := O.ents.map e (hperm.mem_iff.mp he)
      exact ⟨k, tok, z⟩
    have hmem : ∀ x, x ∈ es'.toList.map keyOf ↔ x ∈ l := fun x => by rw [(hperm.map keyOf).mem_iff, ← O.ents.eq_map]
    refine h _ _ sb ⟨_, _, _, ho', by rw [p1, O.plain], by rw [l1, O.led], ?_, intEs_of hents, ?_, fun x hx => O.six x ((hmem x).mp hx), fun x => nomatch x⟩ hmem
    · rw [hsz]; exact k1.fits (by rw [m1]; omega)
    · exact ((hperm.map keyOf).nodup_iff).mpr (by rw [← O.ents.eq_map]; exact O.nodup)

theorem tidy_int {c : Bool} {l : List Int} {Q : Unit → Shared → Prop} (hS : ISet w c s.heap a l)
    (h : ∀ h' l', Heap.SameBut a s.heap h' → ISet w false h' a l' → (∀ x, x ∈ l' ↔ x ∈ l) → Q () { s with heap := h' }) : wpAny (model prog w) A (setTidy a) Q E s := by
  obtain ⟨es, ep, t, ho, O⟩ := id hS
  have hlen : es.size = l.length := by rw [← Array.length_toList, O.ents.length]
  unfold setTidy
  refine wpAny_bind (wpAny_setState_of ho rfl O.fits ?_)
  dsimp only
  split
  · exact relay_int hS hlen h
  · exact wpAny_pure (h s.heap l (Heap.SameBut.refl _ _) ⟨es, ep, t, ho, { O with clean := fun x => nomatch x }⟩ fun x => Iff.rfl)

/-- an iterable that is no set and no dict -/
structure Other (s : Shared) (x : Value) : Prop where
  ex : ∃ T, s.TypeIs x T ∧ isSubtype (.type T) (.type "set") = pure false ∧ isSubtype (.type T) (.type "frozenset") = pure false ∧ (Value.type T == .type "dict") = false

theorem notAnySet {x : Value} {Q : Bool → Shared → Prop} (hx : Other s x) (h : Q false s) : wpAny (model prog w) A (Builtin.Frozenset.isAnySet x) Q E s := by
  obtain ⟨T, hT, h1, h2, _⟩ := hx.ex
  unfold Builtin.Frozenset.isAnySet
  unfold orM
  refine wpAny_bind (wpAny_isInstance hT h1 ?_)
  exact wpAny_isInstance hT h2 h

/-- what a walk hands to a loop -/
def Feeds (prog : Program) (w : World) (A : Around) (a : Addr) (it : Value) (s : Shared) (vs : List Int) (C : List Addr → Prop) : Prop :=
  ∃ I fp wr n P St val, it = .ref I ∧ Walks prog w A I fp wr n P St ∧ a ∉ fp ∧ (∀ i v, i < n → P i v → ∃ t, v = .int (val i) t) ∧ St 0 s.heap ∧ vs = (List.range n).map val ∧ C wr

theorem updateFrom_walk {id : String} {x : Value} {l : List Int} {Q : Unit → Shared → Prop} (hx : Other s x) 
    (h : wpAny (model prog w) A (pyIter x) (fun it s1 => ISet w true s1.heap a l ∧ ∃ vs, (∀ v, v ∈ vs → v ∈ six) ∧ Feeds prog w A.in1 a it s1 vs fun wr =>
      ∀ h' tk l', Upto (a :: wr) s1.heap h' → ISet w true h' a l' → (∀ x, x ∈ l' ↔ x ∈ l ∨ x ∈ vs) → Q () { s1 with heap := h', toks := tk }) E s) :
    wpAny (model prog w) A (Builtin.Frozenset.updateFrom id a x) Q E s := by
  obtain ⟨T, hT, h1, h2, h3⟩ := hx.ex
  unfold Builtin.Frozenset.updateFrom
  refine wpAny_bind (notAnySet hx ?_)
  simp only [Bool.false_eq_true, ↓reduceIte]
  refine wpAny_bind (wpAny_typeOf hT ?_)
  rw [h3]
  simp only [Bool.false_eq_true, ↓reduceIte]
  refine wpAny_bind (wpAny_mono h (fun it s1 hq => ?_) fun _ _ e => e)
  obtain ⟨hS, vs, h6, I, fp, wr, n, P, St, val, rfl, W, haf, hval, hst, rfl, hC⟩ := hq
  refine wpAny_bind (wpAny_runValue ?_)
  refine update_loop (val := val) W haf (fun i v hi hP => ?_) (n - 0) 0 s1 l rfl (Nat.zero_le _) hst hS fun h' tk l' u S' m' => ?_
  · obtain ⟨t, e⟩ := hval i v hi hP
    exact ⟨t, e, h6 _ (List.mem_map.mpr ⟨i, List.mem_range.mpr hi, rfl⟩)⟩
  · refine wpAny_pure (hC h' tk l' u S' fun x => ?_)
    rw [m']
    simp [List.mem_map]

theorem differenceUpdate_walk {id : String} {x : Value} {l : List Int} {Q : Unit → Shared → Prop} (hx : Other s x) (hne : x ≠ .ref a)
    (h : wpAny (model prog w) A (pyIter x) (fun it s1 => ISet w false s1.heap a l ∧ ∃ vs, Feeds prog w A.in1 a it s1 vs fun wr =>
      ∀ h' tk l', Upto (a :: wr) s1.heap h' → ISet w false h' a l' → (∀ x, x ∈ l' ↔ x ∈ l ∧ x ∉ vs) → Q () { s1 with heap := h', toks := tk }) E s) :
    wpAny (model prog w) A (Builtin.Frozenset.differenceUpdate id a x) Q E s := by
  obtain ⟨T, hT, h1, h2, h3⟩ := hx.ex
  unfold Builtin.Frozenset.differenceUpdate
  have hb : (x == Value.ref a) = false := by simpa using hne
  rw [hb]
  simp only [Bool.false_eq_true, ↓reduceIte]
  refine wpAny_bind (notAnySet hx ?_)
  simp only [Bool.false_eq_true, ↓reduceIte]
  refine wpAny_bind (wpAny_mono h (fun it s1 hq => ?_) fun _ _ e => e)
  obtain ⟨hS, vs, I, fp, wr, n, P, St, val, rfl, W, haf, hval, hst, rfl, hC⟩ := hq
  refine wpAny_bind (wpAny_runValue ?_)
  refine diff_loop (val := val) W haf hval (n - 0) 0 s1 l rfl (Nat.zero_le _) hst hS fun h' tk l' u S' m' => ?_
  refine tidy_int (s := { s1 with heap := h', toks := tk }) S' fun h2 l2 sb S2 m2 => ?_
  refine hC h2 tk l2 (u.trans (Upto.same sb (.head _))) S2 fun x => ?_
  rw [m2, m']
  simp [List.mem_map]

/-- a list, walked -/
theorem feeds_list {ax : Addr} {vs : List Value} {ns : List Int} {C : List Addr → Prop} (hh : A.handled = none) (hl : s.heap.IsList ax vs.toArray) (hi : IntsAre vs ns) (hI : s.heap.IsListIter I ax 0) (hne : ax ≠ I) (ha : a ≠ I) (ha' : a ≠ ax) (hC : C [I]) :
    Feeds prog w A a (.ref I) s ns C := by
  have hn : vs.length = ns.length := IntsAre.length hi
  refine ⟨I, [I, ax], [I], vs.toArray.size, _, _, fun i => ns.getD i 0, rfl, Walks.list hh I ax hne vs.toArray, by simp [ha, ha'], fun i v hi' hv => IntsAre.int_at hi i v (by simpa using hv), ⟨hI, hl⟩, ?_, hC⟩
  apply List.ext_getElem
  · simp [hn]
  · intro i h1 h2
    simp [h1]
end
end Mine
end

section
open PySem PyProof.Rows
set_option Elab.async false
set_option maxRecDepth 100000
namespace Mine

theorem ne_size {h : Heap} {a : Addr} {o : Obj} (e : h.get? a = some o) : a ≠ h.objs.size := Nat.ne_of_lt (Heap.lt_size e)
theorem ISet.get {w : World} {c : Bool} {h : Heap} {a : Addr} {l : List Int} (H : ISet w c h a l) : ∃ o, h.get? a = some o ∧ o.cls = .type "set" := let ⟨_, _, _, ho, _⟩ := H; ⟨_, ho, rfl⟩
theorem cls_ne {h : Heap} {a b : Addr} {o o' : Obj} (x : h.get? a = some o) (y : h.get? b = some o') (ne : o.cls ≠ o'.cls) : a ≠ b := by
  rintro rfl
  rw [x] at y
  cases y
  exact ne rfl
theorem ISet.ne_list {w : World} {c : Bool} {h : Heap} {a ax : Addr} {l : List Int} {vs : Array Value} (H : ISet w c h a l) (hl : h.IsList ax vs) : a ≠ ax := by
  obtain ⟨o, ho, hc⟩ := H.get
  obtain ⟨o', ho', hc', _⟩ := hl
  exact cls_ne ho ho' (by rw [hc, hc']; decide)
theorem upto_it {h h' : Heap} {a : Addr} {o : Obj} {xs : List Addr} (u : Upto (a :: [h.objs.size]) (h.push o) h') (ha : a ∈ xs) : Upto xs h h' := fun b ob hb e => u b ob (by
  simp only [List.mem_cons, List.not_mem_nil, or_false, not_or]
  exact ⟨fun q => hb (q ▸ ha), ne_size e⟩) (Heap.get?_push_of_some _ e)
theorem other_list {s : Shared} {ax : Addr} {vs : Array Value} (hl : s.heap.IsList ax vs) : Other s (.ref ax) := ⟨"list", hl.typeIs, PySem.F.sub_list_set, PySem.F.sub_list_frozenset, by decide⟩

section
variable {prog : Program} {w : World} {A : Around} {E : Value → Shared → Prop} {s : Shared} {a ax : Addr} {vs : List Value} {ns : List Int}

theorem updateFrom_list {nm : String} {l : List Int} {Q : Unit → Shared → Prop} (hh : A.handled = none) (hS : ISet w true s.heap a l) (hl : s.heap.IsList ax vs.toArray) (hi : IntsAre vs ns) (h6 : ∀ v, v ∈ ns → v ∈ six)
    (h : ∀ h' tk l', Upto [a] s.heap h' → ISet w true h' a l' → (∀ x, x ∈ l' ↔ x ∈ l ∨ x ∈ ns) → Q () { s with heap := h', toks := tk }) :
    wpAny (model prog w) A (Builtin.Frozenset.updateFrom nm a (.ref ax)) Q E s := by
  refine updateFrom_walk (l := l) (other_list hl) (wpAny_pyIter_list hl ?_)
  obtain ⟨oS, hoS, _⟩ := hS.get
  obtain ⟨ol, hol, _⟩ := id hl
  refine ⟨hS.at (xs := []) (Upto.push _) (by simp), ns, h6, feeds_list (A := A.in1) hh (hl.push _) hi ⟨_, Heap.get?_push_size _ rfl, rfl, rfl⟩ (ne_size hol) (ne_size hoS) (hS.ne_list hl) fun h' tk l' u S' m' => h h' tk l' (upto_it u (.head _)) S' m'⟩

theorem differenceUpdate_list {nm : String} {c : Bool} {l : List Int} {Q : Unit → Shared → Prop} (hh : A.handled = none) (hS : ISet w c s.heap a l) (hl : s.heap.IsList ax vs.toArray) (hi : IntsAre vs ns)
    (h : ∀ h' tk l', Upto [a] s.heap h' → ISet w false h' a l' → (∀ x, x ∈ l' ↔ x ∈ l ∧ x ∉ ns) → Q () { s with heap := h', toks := tk }) :
    wpAny (model prog w) A (Builtin.Frozenset.differenceUpdate nm a (.ref ax)) Q E s := by
  have hS' : ISet w false s.heap a l := by
    obtain ⟨es, ep, t, ho, O⟩ := hS
    exact ⟨es, ep, t, ho, { O with clean := fun x => nomatch x }⟩
  refine differenceUpdate_walk (l := l) (other_list hl) (fun e => hS.ne_list hl (Value.ref.inj e).symm) (wpAny_pyIter_list hl ?_)
  obtain ⟨oS, hoS, _⟩ := hS.get
  obtain ⟨ol, hol, _⟩ := id hl
  refine ⟨hS'.at (xs := []) (Upto.push _) (by simp), ns, feeds_list (A := A.in1) hh (hl.push _) hi ⟨_, Heap.get?_push_size _ rfl, rfl, rfl⟩ (ne_size hol) (ne_size hoS) (hS.ne_list hl) fun h' tk l' u S' m' => h h' tk l' (upto_it u (.head _)) S' m'⟩

theorem method_update {c : Bool} {l : List Int} {pl : Sem Bool} {Q : Value × List Value → Shared → Prop} (hS : ISet w c s.heap a l) (h : Q (.builtin "set.update", [.ref a]) s) :
    wpAny (model prog w) A (getMethod (.ref a) "update" pl) Q E s := getMethod_builtin hS.type PySem.F.plainAttrs_set PySem.F.slot_set_update PySem.F.type_set_update hS.noDict h
theorem call_update {l : List Int} {Q : Value → Shared → Prop} (hh : A.handled = none) (hS : ISet w true s.heap a l) (hl : s.heap.IsList ax vs.toArray) (hi : IntsAre vs ns) (h6 : ∀ v, v ∈ ns → v ∈ six)
    (h : ∀ h' tk l', Upto [a] s.heap h' → ISet w true h' a l' → (∀ x, x ∈ l' ↔ x ∈ l ∨ x ∈ ns) → Q .none { s with heap := h', toks := tk }) :
    wpAny (model prog w) A (call (.builtin "set.update") [.ref a, .ref ax]) Q E s := by
  refine wpAny_call_entry PySem.F.slot_set_update hS.type PySem.F.entry_set_update ?_ (PySem.F.args_set_update_2 _ _)
  unfold Builtin.«set.update» Builtin.Frozenset.manyOthers Builtin.Frozenset.addrOf
  refine wpAny_bind (wpAny_bind (wpAny_pure (wpAny_pure ?_)))
  dsimp only
  refine wpAny_bind ?_
  rw [List.forIn_cons]
  refine wpAny_bind (wpAny_bind (updateFrom_list (A := A.in1) hh hS hl hi h6 fun h' tk l' u S' m' => wpAny_pure ?_))
  dsimp only
  rw [List.forIn_nil]
  exact wpAny_pure (wpAny_pure ⟨_, rfl, h h' tk l' u S' m'⟩)

theorem method_diffUpd {c : Bool} {l : List Int} {pl : Sem Bool} {Q : Value × List Value → Shared → Prop} (hS : ISet w c s.heap a l) (h : Q (.builtin "set.difference_update", [.ref a]) s) :
    wpAny (model prog w) A (getMethod (.ref a) "difference_update" pl) Q E s := getMethod_builtin hS.type PySem.F.plainAttrs_set PySem.F.slot_set_difference_update PySem.F.type_set_difference_update hS.noDict h
theorem call_diffUpd {c : Bool} {l : List Int} {Q : Value → Shared → Prop} (hh : A.handled = none) (hS : ISet w c s.heap a l) (hl : s.heap.IsList ax vs.toArray) (hi : IntsAre vs ns)
    (h : ∀ h' tk l', Upto [a] s.heap h' → ISet w false h' a l' → (∀ x, x ∈ l' ↔ x ∈ l ∧ x ∉ ns) → Q .none { s with heap := h', toks := tk }) :
    wpAny (model prog w) A (call (.builtin "set.difference_update") [.ref a, .ref ax]) Q E s := by
  refine wpAny_call_entry PySem.F.slot_set_difference_update hS.type PySem.F.entry_set_difference_update ?_ (PySem.F.args_set_difference_update_2 _ _)
  unfold Builtin.«set.difference_update» Builtin.Frozenset.manyOthers Builtin.Frozenset.addrOf
  refine wpAny_bind (wpAny_bind (wpAny_pure (wpAny_pure ?_)))
  dsimp only
  refine wpAny_bind ?_
  rw [List.forIn_cons]
  refine wpAny_bind (wpAny_bind (differenceUpdate_list (A := A.in1) hh hS hl hi fun h' tk l' u S' m' => wpAny_pure ?_))
  dsimp only
  rw [List.forIn_nil]
  exact wpAny_pure (wpAny_pure ⟨_, rfl, h h' tk l' u S' m'⟩)

/-- set(list) -/
theorem call_set_of_list {Q : Value → Shared → Prop} (hh : A.handled = none) (hl : s.heap.IsList ax vs.toArray) (hi : IntsAre vs ns) (h6 : ∀ v, v ∈ ns → v ∈ six)
    (h : ∀ h' tk l', Upto [] s.heap h' → ISet w true h' s.heap.objs.size l' → (∀ x, x ∈ l' ↔ x ∈ ns) → Q (.ref s.heap.objs.size) { s with heap := h', toks := tk }) :
    wpAny (model prog w) A (call (.type "set") [.ref ax]) Q E s := by
  refine call_set_1 (updateFrom_list (A := A.in1.in1) hh (iset_empty (Heap.get?_push_size _ rfl)) (hl.push _) hi h6 fun h' tk l' u S' m' => ?_)
  refine h h' tk l' (fun b o _ e => u b o (by simp [ne_size e]) (Heap.get?_push_of_some _ e)) S' fun x => ?_
  rw [m']; simp

theorem sub_set_set : isSubtype (.type "set") (.type "set") = pure true := sub_set_self
/-- a copy of a set without dummies -/
theorem copyOf_int {l : List Int} {Q : Value → Shared → Prop} (hS : ISet w true s.heap a l)
    (h : ∀ h' l', Upto [] s.heap h' → ISet w false h' s.heap.objs.size l' → (∀ x, x ∈ l' ↔ x ∈ l) → Q (.ref s.heap.objs.size) { s with heap := h' }) :
    wpAny (model prog w) A (Builtin.Frozenset.copyOf a) Q E s := by
  obtain ⟨es, ep, t, ho, O⟩ := id hS
  have hlen : es.size = l.length := by rw [← Array.length_toList, O.ents.length]
  have h6 := hS.len
  unfold Builtin.Frozenset.copyOf Builtin.Frozenset.baseOf Builtin.Frozenset.addrOf
  refine wpAny_bind (wpAny_bind (wpAny_isInstance hS.type sub_set_set (wpAny_pure ?_)))
  simp only [↓reduceIte]
  refine wpAny_bind (newSet_led (wpAny_bind (wpAny_pure ?_)))
  have hne : a ≠ s.heap.objs.size := ne_size ho
  have hr : (s.heap.push (emptySet w)).get? s.heap.objs.size = some (emptySet w) := Heap.get?_push_size _ rfl
  have ho1 : (s.heap.push (emptySet w)).get? a = some (setO es ep t) := Heap.get?_push_of_some _ ho
  refine wpAny_bind ?_
  unfold setMerge
  rw [if_neg (by simpa using fun e => hne e.symm)]
  refine wpAny_bind (wpAny_setState_of (s := { s with heap := _ }) ho1 rfl O.fits ?_)
  dsimp only
  by_cases he : es.isEmpty = true
  · rw [if_pos he]
    have h0 : es.size = 0 := by simpa using he
    have hl0 : l = [] := List.length_eq_zero_iff.mp (by omega)
    refine wpAny_pure (wpAny_pure (h _ [] (Upto.push _) (iset_empty hr).weak fun x => by rw [hl0]))
  · rw [if_neg he]
    have h0 : 0 < es.size := by
      rcases Nat.eq_zero_or_pos es.size with q | q
      · exact absurd (by simpa using q) he
      · exact q
    refine wpAny_bind (wpAny_mono (Q := fun _ s2 => ∃ h1 e1 t1, s2 = { s with heap := h1 } ∧ h1.get? s.heap.objs.size = some (setO #[] e1 t1) ∧ h1.get? a = some (setO es ep t) ∧ Upto [] s.heap h1 ∧ TabOk t1 0 ∧ (t1.mask = 7 ∨ t1.mask = 15) ∧ es.size ≤ t1.mask ∧ t1.plain = true ∧ t1.led = !byText w) ?_ ?_ fun _ _ e => e)
    · unfold setRoomFor
      refine wpAny_bind (wpAny_setState_of (s := { s with heap := _ }) hr rfl rfl ?_)
      dsimp only
      by_cases h5 : es.size ≥ 5
      · have e1 : (SetTable.fresh 0 0 (!byText w)).roomFor es.size = some (es.size * 2) := by
          unfold SetTable.roomFor
          rw [if_pos (by simp [SetTable.fill, SetTable.fresh]; omega)]
          simp [SetTable.fresh]
        rw [e1]
        dsimp only
        have hsa : SetTable.sizeAbove (es.size * 2) = 16 := by
          have : es.size = 5 ∨ es.size = 6 := by omega
          rcases this with q | q <;> rw [q] <;> decide
        refine relay_core (s := { s with heap := _ }) hr rfl (m := 15) (by rw [hsa]) (by rw [hsa, sizeLine_eq]; decide) (Nat.zero_le _) (Nat.zero_le _) (fun e he => by simp at he) fun es' t' hp k m' p' l' ho' sb => ?_
        have hes : es' = #[] := by
          have := hp.length_eq
          simpa using this
        subst hes
        refine ⟨_, 0 + 1, t', rfl, ho', (sb.2 a hne).trans ho1, fun b o hb e => (sb.2 b (ne_size e)).trans (Heap.get?_push_of_some _ e), k, .inr m', by rw [m']; omega, p', l'⟩
      · have e1 : (SetTable.fresh 0 0 (!byText w)).roomFor es.size = none := by
          unfold SetTable.roomFor
          rw [if_neg (by simp [SetTable.fill, SetTable.fresh]; omega)]
        rw [e1]
        exact wpAny_pure ⟨_, 0, _, rfl, hr, ho1, Upto.push _, (clean_fresh _).ok, .inl rfl, by show es.size ≤ 7; omega, rfl, rfl⟩
    · rintro _ s2 ⟨h1, e1, t1, rfl, hr1, ha1, hu, k1, hm, hsz, hp, hld⟩
      refine wpAny_bind (wpAny_setState_of (s := { s with heap := h1 }) hr1 rfl (k1.fits (Nat.zero_le _)) ?_)
      dsimp only
      have hfill : t1.fill = 0 := by simp [SetTable.fill, k1.size, k1.dum]
      by_cases hroad : (t1.mask == t.mask && t.dummies.isEmpty) = true
      · have hrd : t1.road t = .slotForSlot := by unfold SetTable.road; rw [hfill, hroad]; rfl
        rw [hrd]
        dsimp only
        refine wpAny_storeSet_of (s := { s with heap := h1 }) hr1 rfl ?_ (by rw [sizeLine_eq]; omega)
        refine wpAny_pure (h _ l (fun b o hb e => ?_) ⟨_, _, _, get_set (s := { s with heap := h1 }) hr1 _ _, by dsimp only; rw [hp, O.plain]; rfl, by dsimp only; rw [hld, O.led]; simp, O.fits, O.ents, O.nodup, O.six, fun x => nomatch x⟩ fun x => Iff.rfl)
        rw [(Heap.SameBut.update h1 s.heap.objs.size _).2 b (ne_size e)]
        exact hu b o hb e
      · have hroad' : (t1.mask == t.mask && t.dummies.isEmpty) = false := by simpa using hroad
        have hrd : t1.road t = .clean := by unfold SetTable.road; rw [hfill, hroad']; rfl
        rw [hrd]
        dsimp only
        obtain ⟨t', order, x1, x2, x3, x4, x5, x6⟩ := laid_ok t1.mask t1.finger t1.moves (t1.led && t.led) (t1.plain && t.plain) (es.map (·.1)) (by simp; omega) (fun hv hx => by
          rw [Array.toList_map] at hx
          obtain ⟨y, hy, rfl⟩ := List.mem_map.mp hx
          obtain ⟨k, tok, hk, rfl⟩ := O.ents.map y hy
          exact (goodH_at (good_int (O.six k hk)) (hm.elim .inl fun q => .inr (.inl q))).2)
        rw [Array.size_map] at x2 x6
        have hperm := reorder_perm es order x6
        have hs2 : (order.filterMap (es[·]?)).size = es.size := by rw [← Array.length_toList, hperm.length_eq, Array.length_toList]
        rw [x1]
        refine wpAny_bind ?_
        show wpAny _ _ (if ((order.filterMap (es[·]?)).size != es.size) = true then _ else _) _ _ _
        rw [if_neg (by rw [hs2]; simp)]
        refine wpAny_pure ?_
        dsimp only
        refine wpAny_storeSet_of (s := { s with heap := h1 }) hr1 rfl ?_ (by rw [hs2, sizeLine_eq]; omega)
        have hents : ∀ e, e ∈ (order.filterMap (es[·]?)).toList → ∃ k tok, e = (hashInt k, Value.int k tok) := fun e he => by
          obtain ⟨k, tok, _, z⟩ := O.ents.map e (hperm.mem_iff.mp he)
          exact ⟨k, tok, z⟩
        have hmem : ∀ x, x ∈ (order.filterMap (es[·]?)).toList.map keyOf ↔ x ∈ l := fun x => by rw [(hperm.map keyOf).mem_iff, ← O.ents.eq_map]
        refine wpAny_pure (h _ _ (fun b o hb e => ?_) ⟨_, _, _, get_set (s := { s with heap := h1 }) hr1 _ _, by rw [x5, hp, O.plain]; rfl, by rw [x4, hld, O.led]; simp, by rw [hs2]; exact x2.fits (by rw [x3]; exact hsz), intEs_of hents, ((hperm.map keyOf).nodup_iff).mpr (by rw [← O.ents.eq_map]; exact O.nodup), fun x hx => O.six x ((hmem x).mp hx), fun x => nomatch x⟩ hmem)
        rw [(Heap.SameBut.update h1 s.heap.objs.size _).2 b (ne_size e)]
        exact hu b o hb e

theorem entry_difference : entryFor table "set.difference" = some Builtin.«frozenset.difference» :=
  alias_tree (id' := "frozenset.difference") (by kernel_rfl) rfl (by decide +kernel) (by kernel_rfl)
theorem method_diff {c : Bool} {l : List Int} {pl : Sem Bool} {Q : Value × List Value → Shared → Prop} (hS : ISet w c s.heap a l) (h : Q (.builtin "set.difference", [.ref a]) s) :
    wpAny (model prog w) A (getMethod (.ref a) "difference" pl) Q E s := getMethod_builtin hS.type PySem.F.plainAttrs_set PySem.F.slot_set_difference PySem.F.type_set_difference hS.noDict h
theorem call_diff {l : List Int} {Q : Value → Shared → Prop} (hh : A.handled = none) (hS : ISet w true s.heap a l) (hl : s.heap.IsList ax vs.toArray) (hi : IntsAre vs ns)
    (h : ∀ h' tk l', Upto [] s.heap h' → ISet w false h' s.heap.objs.size l' → (∀ x, x ∈ l' ↔ x ∈ l ∧ x ∉ ns) → Q (.ref s.heap.objs.size) { s with heap := h', toks := tk }) :
    wpAny (model prog w) A (call (.builtin "set.difference") [.ref a, .ref ax]) Q E s := by
  refine wpAny_call_entry PySem.F.slot_set_difference hS.type entry_difference ?_ (PySem.F.args_set_difference_2 _ _)
  obtain ⟨T, hT, h1, h2, h3⟩ := (other_list hl).ex
  unfold Builtin.«frozenset.difference» Builtin.Frozenset.manyOthers Builtin.Frozenset.addrOf
  refine wpAny_bind (wpAny_bind (wpAny_pure (wpAny_pure ?_)))
  dsimp only
  refine wpAny_bind ?_
  unfold Builtin.Frozenset.difference
  refine wpAny_bind (notAnySet (other_list hl) ?_)
  simp only [Bool.not_false, ↓reduceIte]
  refine wpAny_bind (wpAny_typeOf hT ?_)
  have e : (Value.type T != .type "dict") = true := by unfold bne; rw [h3]; rfl
  rw [if_pos e]
  refine wpAny_bind (copyOf_int hS fun h' l' u S' m' => ?_)
  unfold Builtin.Frozenset.addrOf
  refine wpAny_bind (wpAny_pure ?_)
  refine wpAny_bind (wpAny_holding ?_)
  have hl' : h'.IsList ax vs.toArray := by
    obtain ⟨o, ho, r⟩ := hl
    exact ⟨o, u.at ho (by simp), r⟩
  refine differenceUpdate_list (s := { s with heap := h' }) (A := A.in1) hh S' hl' hi fun h2' tk l2 u2 S2 m2 => ?_
  refine wpAny_pure ?_
  refine wpAny_bind (wpAny_holding ?_)
  rw [List.forIn_nil]
  refine wpAny_pure (wpAny_pure ⟨_, rfl, h h2' tk l2 (fun b o _ e => u2 b o (by simp [ne_size e]) (u b o (by simp) e)) S2 fun x => ?_⟩)
  rw [m2, m']
end
end Mine
end

section
open PySem PyProof.Rows
set_option Elab.async false
set_option maxRecDepth 100000
namespace Mine
section
variable {prog : Program} {w : World} {A : Around} {E : Value → Shared → Prop} {s : Shared} {a b : Addr}

theorem entry_isdisjoint : entryFor table "set.isdisjoint" = some Builtin.«frozenset.isdisjoint» :=
  alias_tree (id' := "frozenset.isdisjoint") (by kernel_rfl) rfl (by decide +kernel) (by kernel_rfl)
theorem method_disj {c : Bool} {l : List Int} {pl : Sem Bool} {Q : Value × List Value → Shared → Prop} (hS : ISet w c s.heap a l) (h : Q (.builtin "set.isdisjoint", [.ref a]) s) :
    wpAny (model prog w) A (getMethod (.ref a) "isdisjoint" pl) Q E s := getMethod_builtin hS.type PySem.F.plainAttrs_set PySem.F.slot_set_isdisjoint PySem.F.type_set_isdisjoint hS.noDict h

theorem walkUnseen_int {c c' : Bool} {la lb : List Int} {esa : Array (Int × Value)} {epa : Nat} {ta : SetTable} {Q : List (Int × Value) → Shared → Prop} (ha : s.heap.get? a = some (setO esa epa ta)) (Oa : ISetO w c la esa ta) (hB : ISet w c' s.heap b lb)
    (h : Q esa.toList s) : wpAny (model prog w) A (Builtin.Frozenset.walkUnseen a b) Q E s := by
  obtain ⟨esb, epb, tb, hb, Ob⟩ := hB
  unfold Builtin.Frozenset.walkUnseen
  refine wpAny_bind (wpAny_setEntries_of ha rfl Oa.fits ?_)
  refine wpAny_bind (wpAny_setEntries_of hb rfl Ob.fits ?_)
  refine wpAny_bind ?_
  refine wpAny_mono (wpAny_forIn_list _ (fun rest r s' => s' = s ∧ r = (none, ()) ∧ ∀ e, e ∈ rest → ∃ k tok, e.2 = Value.int k tok) (fun r s' => s' = s ∧ r = (none, ())) ?turn (fun _ _ h => ⟨h.1, h.2.1⟩) _ _ ⟨rfl, rfl, fun e he => ?init⟩) (fun r s' h' => ?post) fun _ _ e => e
  case turn =>
    rintro ⟨hx, x⟩ rest r s' ⟨rfl, rfl, hall⟩
    obtain ⟨k, tok, hk⟩ := hall _ (.head _)
    dsimp only at hk
    subst hk
    refine wpAny_bind (wpAny_pure ?_)
    simp only [Bool.not_true, Bool.false_eq_true, ↓reduceIte]
    exact wpAny_pure ⟨rfl, rfl, fun e he => hall e (.tail _ he)⟩
  case init =>
    rcases List.mem_append.mp he with q | q
    · obtain ⟨k, tok, _, rfl⟩ := Oa.ents.map e q; exact ⟨k, tok, rfl⟩
    · obtain ⟨k, tok, _, rfl⟩ := Ob.ents.map e q; exact ⟨k, tok, rfl⟩
  case post =>
    obtain ⟨rfl, rfl⟩ := h'
    exact wpAny_pure h

theorem disj_core {c c' : Bool} {la lb : List Int} {Q : Fin → Shared → Prop} (hA : ISet w c s.heap a la) (hB : ISet w c' s.heap b lb) (h : Q (.done (.ret (.bool (la.all fun k => !lb.contains k)))) s) :
    wpAny (model prog w) A (do
      let was ← setEpoch a
      for (h, x) in ← Builtin.Frozenset.walkUnseen a b do
        if (← holding [x] (setFind b x h)).isSome then return ← ret (.bool false)
        Builtin.Frozenset.unchanged "frozenset.isdisjoint" a was
      ret (.bool true)) Q E s := by
  obtain ⟨esa, epa, ta, ha, Oa⟩ := id hA
  refine wpAny_bind (wpAny_setEpoch_of ha rfl Oa.fits ?_)
  refine wpAny_bind (walkUnseen_int ha Oa hB ?_)
  refine wpAny_bind ?_
  have hall : la = esa.toList.map keyOf := Oa.ents.eq_map
  refine wpAny_mono (wpAny_forIn_list _ (fun rest r s' => s' = s ∧ r = (none, ()) ∧ (∀ e, e ∈ rest → ∃ k tok, e = (hashInt k, Value.int k tok)) ∧ (la.all fun k => !lb.contains k) = ((rest.map keyOf).all fun k => !lb.contains k))
    (fun r s' => s' = s ∧ ((r = (none, ()) ∧ (la.all fun k => !lb.contains k) = true) ∨ (r.1 = some (.done (.ret (.bool false))) ∧ (la.all fun k => !lb.contains k) = false))) ?turn ?fin _ _ ⟨rfl, rfl, fun e he => ?init, by rw [hall]⟩) (fun r s' h' => ?post) fun _ _ e => e
  case turn =>
    rintro ⟨hx, x⟩ rest r s' ⟨rfl, rfl, hk, heq⟩
    obtain ⟨k, tok, e⟩ := hk _ (.head _)
    cases e
    refine wpAny_bind (wpAny_holding (wpAny_setFind_of (knd := intKind prog w) (k := k) (by simp [intKind, Value.isInt]) rfl hB.setOf fun r hr => ?_))
    have e1 : (List.map keyOf ((hashInt k, Value.int k tok) :: rest)).all (fun k => !lb.contains k) = (!lb.contains k && (rest.map keyOf).all fun k => !lb.contains k) := rfl
    rw [e1] at heq
    by_cases hm : k ∈ lb
    · rw [hr, decide_eq_true hm]
      simp only [↓reduceIte]
      refine wpAny_pure ⟨rfl, .inr ⟨rfl, ?_⟩⟩
      rw [heq]
      have : lb.contains k = true := List.contains_iff_mem.mpr hm
      rw [this]; rfl
    · rw [hr, decide_eq_false hm]
      simp only [Bool.false_eq_true, ↓reduceIte]
      unfold Builtin.Frozenset.unchanged
      refine wpAny_bind (wpAny_bind (wpAny_setEpoch_of ha rfl Oa.fits ?_))
      simp only [bne_self_eq_false, Bool.false_eq_true, ↓reduceIte]
      refine wpAny_pure (wpAny_pure ⟨rfl, rfl, fun e he => hk e (.tail _ he), ?_⟩)
      rw [heq]
      have : lb.contains k = false := by
        cases q : lb.contains k with
        | false => rfl
        | true => exact absurd (List.contains_iff_mem.mp q) hm
      rw [this]; rfl
  case fin =>
    rintro r s' ⟨rfl, rfl, _, heq⟩
    exact ⟨rfl, .inl ⟨rfl, heq⟩⟩
  case init =>
    obtain ⟨k, tok, _, z⟩ := Oa.ents.map e he
    exact ⟨k, tok, z⟩
  case post =>
    obtain ⟨rfl, ⟨rfl, ht⟩ | ⟨hr, hf⟩⟩ := h'
    · rw [ht] at h
      exact wpAny_pure h
    · obtain ⟨r1, r2⟩ := r
      dsimp only at hr
      subst hr
      rw [hf] at h
      exact wpAny_pure h

theorem all_comm {la lb : List Int} : (la.all fun k => !lb.contains k) = (lb.all fun k => !la.contains k) := by
  rw [Bool.eq_iff_iff]
  simp only [List.all_eq_true, Bool.not_eq_true']
  have e : ∀ (l : List Int) k, l.contains k = false ↔ k ∉ l := fun l k => by
    cases q : l.contains k with
    | true => exact ⟨fun z => (nomatch z), fun z => absurd (List.contains_iff_mem.mp q) z⟩
    | false => exact ⟨fun _ m => by rw [List.contains_iff_mem.mpr m] at q; exact absurd q (by simp), fun _ => rfl⟩
  simp only [e]
  exact ⟨fun h k hk hk' => h k hk' hk, fun h k hk hk' => h k hk' hk⟩

theorem call_disj {c c' : Bool} {la lb : List Int} {Q : Value → Shared → Prop} (hA : ISet w c s.heap a la) (hB : ISet w c' s.heap b lb) (hne : a ≠ b) (h : Q (.bool (la.all fun k => !lb.contains k)) s) :
    wpAny (model prog w) A (call (.builtin "set.isdisjoint") [.ref a, .ref b]) Q E s := by
  refine wpAny_call_entry PySem.F.slot_set_isdisjoint hA.type entry_isdisjoint ?_ (PySem.F.args_set_isdisjoint_2 _ _)
  unfold Builtin.«frozenset.isdisjoint» Builtin.Frozenset.oneOther Builtin.Frozenset.addrOf
  refine wpAny_bind (wpAny_bind (wpAny_pure (wpAny_pure ?_)))
  dsimp only
  rw [if_neg (by simpa using fun e => hne e.symm)]
  refine wpAny_bind (wpAny_typeOf hB.type ?_)
  simp only [beq_self_eq_true, Bool.true_or, ↓reduceIte]
  refine wpAny_bind (wpAny_pure ?_)
  obtain ⟨esa, epa, ta, ha, Oa⟩ := id hA
  obtain ⟨esb, epb, tb, hb, Ob⟩ := id hB
  unfold Builtin.Frozenset.sizeOf
  refine wpAny_bind (wpAny_bind (wpAny_setEntries_of hb rfl Ob.fits (wpAny_pure ?_)))
  refine wpAny_bind (wpAny_bind (wpAny_setEntries_of ha rfl Oa.fits (wpAny_pure ?_)))
  split
  · exact disj_core (A := A.in1) hA hB ⟨_, rfl, h⟩
  · rw [all_comm] at h
    exact disj_core (A := A.in1) hB hA ⟨_, rfl, h⟩
end
end Mine
end

section
open PySem PyProof.Rows
set_option Elab.async false
set_option maxRecDepth 100000
namespace Mine

/-- a pair of ints stands here -/
def TupAt (h : Heap) (r : Addr) (p : Int × Int) : Prop := ∃ o n t u, h.get? r = some o ∧ o.cls = .type "tuple" ∧ o.data = .seq #[.int p.1 t, .int p.2 u] n
theorem TupAt.key {prog : Program} {w : World} {h : Heap} {r : Addr} {p : Int × Int} (x : TupAt h r p) : IsTupleKey (intKind prog w) h [p.1, p.2] r := by
  obtain ⟨o, n, t, u, ho, hc, hd⟩ := x
  exact ⟨o, _, n, ho, hc, hd, .cons (intKind_is _ _ _ _) (.cons (intKind_is _ _ _ _) .nil)⟩
theorem TupAt.at {h h' : Heap} {r : Addr} {p : Int × Int} {xs : List Addr} (x : TupAt h r p) (u : Upto xs h h') (hr : r ∉ xs) : TupAt h' r p :=
  let ⟨o, n, t, v, ho, z⟩ := x; ⟨o, n, t, v, u.at ho hr, z⟩
theorem TupAt.ne {h : Heap} {r a : Addr} {p : Int × Int} {o : Obj} (x : TupAt h r p) (ho : h.get? a = some o) (hc : o.cls ≠ .type "tuple") : r ≠ a :=
  let ⟨_, _, _, _, ho', hc', _⟩ := x; cls_ne ho' ho (by rw [hc']; exact fun e => hc e.symm)
theorem TupAt.inj {h : Heap} {r : Addr} {p q : Int × Int} (x : TupAt h r p) (y : TupAt h r q) : p = q := by
  obtain ⟨o, n, t, u, ho, _, hd⟩ := x
  obtain ⟨o', n', t', u', ho', _, hd'⟩ := y
  rw [ho] at ho'; cases ho'
  rw [hd] at hd'
  injection hd' with e1 e2
  simp at e1
  exact Prod.ext e1.1.1 e1.2.1

/-- entries that bear pairs -/
def PEs (G : Addr → Prop) (h : Heap) : List (Int × Value) → List (Int × Int) → Prop
  | [], [] => True
  | e :: es, p :: l => (∃ r, e = (th p.1 p.2, .ref r) ∧ TupAt h r p ∧ G r) ∧ PEs G h es l
  | _, _ => False
theorem PEs.length {G : Addr → Prop} {h : Heap} : ∀ {es : List (Int × Value)} {l : List (Int × Int)}, PEs G h es l → es.length = l.length
  | [], [], _ => rfl
  | _ :: es, _ :: l, h => by rw [List.length_cons, List.length_cons, PEs.length h.2]
  | [], _ :: _, h => h.elim
  | _ :: _, [], h => h.elim
theorem PEs.get {G : Addr → Prop} {h : Heap} : ∀ {es : List (Int × Value)} {l : List (Int × Int)}, PEs G h es l → ∀ {i : Nat} {e : Int × Value}, es[i]? = some e → ∃ p r, l[i]? = some p ∧ e = (th p.1 p.2, .ref r) ∧ TupAt h r p ∧ G r
  | [], [], _, i, e, he => by simp at he
  | [], _ :: _, h, _, _, _ => h.elim
  | _ :: _, [], h, _, _, _ => h.elim
  | e0 :: es, p :: l, h, 0, e, he => by
    obtain ⟨r, e1, t⟩ := h.1
    simp at he
    exact ⟨p, r, rfl, he ▸ e1, t⟩
  | e0 :: es, p :: l, h, i + 1, e, he => by
    simp only [List.getElem?_cons_succ] at he ⊢
    exact PEs.get h.2 he
theorem PEs.at {G G' : Addr → Prop} {h h' : Heap} : ∀ {es : List (Int × Value)} {l : List (Int × Int)}, PEs G h es l → (∀ r p, TupAt h r p → G r → TupAt h' r p ∧ G' r) → PEs G' h' es l
  | [], [], _, _ => trivial
  | [], _ :: _, h, _ => h.elim
  | _ :: _, [], h, _ => h.elim
  | _ :: _, _ :: _, h, k => ⟨let ⟨r, e, t, g⟩ := h.1; ⟨r, e, k _ _ t g⟩, h.2.at k⟩
theorem PEs.perm {G : Addr → Prop} {h : Heap} {es es' : List (Int × Value)} (p : es'.Perm es) : ∀ {l : List (Int × Int)}, PEs G h es l → ∃ l', PEs G h es' l' ∧ l'.Perm l := by
  induction p with
  | nil => intro l hl; cases l with | nil => exact ⟨[], trivial, .refl _⟩ | cons _ _ => exact hl.elim
  | cons x _ ih =>
    intro l hl
    cases l with
    | nil => exact hl.elim
    | cons q l =>
      obtain ⟨l', a, b⟩ := ih hl.2
      exact ⟨q :: l', ⟨hl.1, a⟩, b.cons q⟩
  | swap x y l0 =>
    intro l hl
    cases l with
    | nil => exact hl.elim
    | cons q l =>
      cases l with
      | nil => exact hl.2.elim
      | cons q' l => exact ⟨q' :: q :: l, ⟨hl.2.1, hl.1, hl.2.2⟩, .swap _ _ _⟩
  | trans _ _ ih1 ih2 =>
    intro l hl
    obtain ⟨l2, a, b⟩ := ih2 hl
    obtain ⟨l1, c, d⟩ := ih1 a
    exact ⟨l1, c, d.trans b⟩
theorem PEs.append {G : Addr → Prop} {h : Heap} : ∀ {es es' : List (Int × Value)} {l l' : List (Int × Int)}, PEs G h es l → PEs G h es' l' → PEs G h (es ++ es') (l ++ l')
  | [], _, [], _, _, b => b
  | [], _, _ :: _, _, a, _ => a.elim
  | _ :: _, _, [], _, a, _ => a.elim
  | _ :: _, _, _ :: _, _, a, b => ⟨a.1, PEs.append a.2 b⟩

def Small (p : Int × Int) : Prop := p.1 ∈ six ∧ p.2 ∈ six
theorem small36 {p : Int × Int} (h : Small p) : p ∈ pairs36 := by
  simp only [pairs36, List.mem_flatMap, List.mem_map]
  exact ⟨p.1, h.1, p.2, h.2, rfl⟩
theorem good_pair {p : Int × Int} (h : Small p) : goodH (th p.1 p.2) = true := by rw [th_eq]; exact List.all_eq_true.mp good_pairs p (small36 h)
theorem th_inj {p q : Int × Int} (hp : Small p) (hq : Small q) (e : th p.1 p.2 = th q.1 q.2) : p = q := by
  have := List.all_eq_true.mp (List.all_eq_true.mp th_inj_all p (small36 hp)) q (small36 hq)
  rw [th_eq, th_eq] at e
  rw [e] at this
  simpa using this

structure PSetO (w : World) (G : Addr → Prop) (h : Heap) (l : List (Int × Int)) (es : Array (Int × Value)) (t : SetTable) : Prop where
  plain : t.plain = true
  led : t.led = !byText w
  clean : Clean t es.size
  ents : PEs G h es.toList l
  nodup : l.Nodup
  small : ∀ p, p ∈ l → Small p
def PSet (w : World) (G : Addr → Prop) (h : Heap) (a : Addr) (l : List (Int × Int)) : Prop := ∃ es ep t, h.get? a = some (setO es ep t) ∧ PSetO w G h l es t

theorem Clean.fits {t : SetTable} {n : Nat} (c : Clean t n) : t.fits n = true := c.ok.fits (by have := c.room; rcases c.mask with q | q <;> rw [q] at this ⊢ <;> omega)

section
variable {prog : Program} {w : World} {A : Around} {E : Value → Shared → Prop} {s : Shared} {a r : Addr}

theorem th_key (p : Int × Int) : tupleKeyHash (intKind prog w) [p.1, p.2] = th p.1 p.2 := by rw [th_eq]; unfold tupleKeyHash thC; rfl

theorem isSub_tuple : isSubtype (.type "tuple") (.type "tuple") = pure true := isSubtype_tuple_tuple

theorem hashByValue_tup {p : Int × Int} {Q : Bool → Shared → Prop} (t : TupAt s.heap r p) (h : Q true s) : wpAny (model prog w) A (hashByValue 8 (.ref r)) Q E s := by
  obtain ⟨o, n, t1, u1, ho, hc, hd⟩ := t
  unfold hashByValue
  refine wpAny_bind (wpAny_specialOf ⟨o, ho, hc⟩ PySem.F.slot_tuple_hash.lookup ?_)
  dsimp only
  refine wpAny_bind (wpAny_seqItems ho hd ?_)
  refine wpAny_bind ?_
  show wpAny _ _ (forIn (#[Value.int p.1 t1, Value.int p.2 u1] : Array Value) _ _) _ _ _
  rw [← Array.forIn_toList]
  show wpAny _ _ (forIn [Value.int p.1 t1, Value.int p.2 u1] _ _) _ _ _
  rw [List.forIn_cons]
  refine wpAny_bind (wpAny_bind (wpAny_pure ?_))
  simp only [Bool.not_true, Bool.false_eq_true, ↓reduceIte]
  refine wpAny_pure ?_
  dsimp only
  rw [List.forIn_cons]
  refine wpAny_bind (wpAny_bind (wpAny_pure ?_))
  simp only [Bool.not_true, Bool.false_eq_true, ↓reduceIte]
  refine wpAny_pure ?_
  dsimp only
  rw [List.forIn_nil]
  exact wpAny_pure (wpAny_pure h)

theorem pset_empty {G : Addr → Prop} {h : Heap} (ho : h.get? a = some (emptySet w)) : PSet w G h a [] :=
  ⟨_, _, _, ho, rfl, rfl, clean_fresh _, trivial, .nil, fun _ h => absurd h List.not_mem_nil⟩

theorem PSet.tups {G : Addr → Prop} {h h' : Heap} {l : List (Int × Int)} (sb : Heap.SameBut a h h') {o : Obj} (ho : h.get? a = some o) (hc : o.cls ≠ .type "tuple") {es : List (Int × Value)} (x : PEs G h es l) : PEs G h' es l :=
  x.at fun _ _ t g => ⟨t.at (Upto.same sb (List.mem_singleton.mpr rfl)) (by rw [List.mem_singleton]; exact t.ne ho hc), g⟩

/-- a search that meets an empty slot at once -/
theorem search_free {x : Value} {hv : Int} {adding : Bool} {n j : Nat} {es : Array (Int × Value)} {ep : Nat} {t : SetTable} {Q : SetFound → Shared → Prop} (ho : s.heap.get? a = some (setO es ep t)) (hf : t.fits es.size = true) (hgw : t.gaveWay = false)
    (hpr : t.probe (fun i => (es[i]?.map (·.1)).getD 0) hv (t.probeStart hv) = some (.empty j none)) (h : Q (.free j false) s) : wpAny (model prog w) A (setSearchFrom a x hv adding (n + 1) none) Q E s := by
  unfold setSearchFrom
  refine wpAny_bind (wpAny_setState_of ho rfl hf ?_)
  dsimp only
  rw [hgw]
  simp only [Bool.false_eq_true, ↓reduceIte]
  generalize hgen : t.probe _ hv _ = met
  have hmet : met = some (.empty j none) := hgen.symm.trans hpr
  rw [hmet]
  exact wpAny_pure h

/-- a new pair is added -/
theorem setAdd_pair {G : Addr → Prop} {l : List (Int × Int)} {p : Int × Int} {Q : Bool → Shared → Prop} (hu : A.units < cLine) (hS : PSet w G s.heap a l) (hl : l.length < 18) (ht : TupAt s.heap r p) (hg : G r) (hp : Small p) (hn : p ∉ l)
    (h : ∀ h' l' tk, Heap.SameBut a s.heap h' → PSet w G h' a l' → l'.Perm (p :: l) → Q true { s with heap := h', toks := tk }) :
    wpAny (model prog w) A (setAdd a (.ref r)) Q E s := by
  obtain ⟨es, ep, t, ho, O⟩ := hS
  have hlen : es.size = l.length := by rw [← Array.length_toList, O.ents.length]
  have hmask := O.clean.mask
  have hroom := O.clean.room
  have hm3 : t.mask = 7 ∨ t.mask = 15 ∨ t.mask = 31 := hmask.elim .inl fun q => .inr (.inr q)
  have hgood := good_pair hp
  unfold setAdd
  refine wpAny_holding (wpAny_bind (wpAny_pyHash_tuple hu (ht.key (prog := prog) (w := w)) ?_))
  rw [th_key]
  have key : ∀ tk, wpAny (model prog w) A (setAddHashed a (.ref r) (th p.1 p.2)) Q E { s with toks := tk } := by
    intro tk
    unfold setAddHashed setAddHashedIn
    refine wpAny_holding (wpAny_bind (wpAny_setState_of (s := { s with toks := tk }) ho rfl O.clean.fits ?_))
    dsimp only
    have hbs : byScan (.ref r) es = false := rfl
    rw [hbs]
    simp only [Bool.false_eq_true, ↓reduceIte]
    refine wpAny_bind ?_
    have hgw : t.gaveWay = false := by unfold SetTable.gaveWay; rcases hmask with q | q <;> rw [q] <;> rfl
    obtain ⟨j, hpr, hj, hjn⟩ := probe_ok O.clean.ok (hashAt := fun i => (es[i]?.map (·.1)).getD 0) (hv := th p.1 p.2) (fun i hi => by
      have hi' : i < es.size := hi
      obtain ⟨q, rq, hq, he, tq, _⟩ := O.ents.get (i := i) (e := es[i]) (by simp [hi'])
      rw [Array.getElem?_eq_getElem hi', he]
      intro e
      exact hn (th_inj (O.small q (List.mem_of_getElem? hq)) hp e ▸ List.mem_of_getElem? hq)) (goodH_at hgood hm3).1 (by rcases hmask with q | q <;> rw [q] at hroom ⊢ <;> omega)
    unfold setSearch
    refine search_free (n := 99999) (s := { s with toks := tk }) ho O.clean.fits hgw hpr ?_
    dsimp only
    refine wpAny_bind (wpAny_setState_of (s := { s with toks := tk }) ho rfl O.clean.fits ?_)
    dsimp only
    obtain ⟨k1, k2, k3⟩ := put_ok O.clean.ok hj hjn
    have kp : (t.put j).1.plain = true := by rw [k2]; exact O.plain
    rw [if_pos kp]
    refine wpAny_bind (hashByValue_tup (s := { s with toks := tk }) ht ?_)
    simp only [↓reduceIte]
    have hperm := SetTable.insertAt_perm es (t.put j).2 (th p.1 p.2, Value.ref r)
    rw [Array.toList_push] at hperm
    have hsz1 : (SetTable.insertAt es (t.put j).2 (th p.1 p.2, Value.ref r)).size = es.size + 1 := by
      rw [← Array.length_toList, hperm.length_eq, List.length_append, Array.length_toList]; rfl
    refine wpAny_bind (wpAny_storeSet_of (s := { s with toks := tk }) ho rfl ?_ (by rw [hsz1, sizeLine_eq]; omega))
    have ho1 := get_set (s := { s with toks := tk }) ho (SetTable.insertAt es (t.put j).2 (th p.1 p.2, Value.ref r)) (t.put j).1
    have sb1 := Heap.SameBut.update s.heap a (Obj.putSet (SetTable.insertAt es (t.put j).2 (th p.1 p.2, Value.ref r)) (t.put j).1)
    have tups : ∀ {h' : Heap} {es' : List (Int × Value)} {l' : List (Int × Int)}, Heap.SameBut a s.heap h' → PEs G s.heap es' l' → PEs G h' es' l' := fun sb x => PSet.tups sb ho (show Value.type "set" ≠ Value.type "tuple" by decide) x
    obtain ⟨l1, pe1, pl1⟩ := PEs.perm hperm (O.ents.append (show PEs G s.heap [(th p.1 p.2, Value.ref r)] [p] from ⟨⟨r, rfl, ht, hg⟩, trivial⟩))
    have pl1' : l1.Perm (p :: l) := pl1.trans (List.perm_append_singleton p l)
    have nd1 : l1.Nodup := pl1'.nodup_iff.mpr (List.nodup_cons.mpr ⟨hn, O.nodup⟩)
    have sm1 : ∀ q, q ∈ l1 → Small q := fun q hq => by
      rcases List.mem_cons.mp (pl1'.mem_iff.mp hq) with rfl | z
      · exact hp
      · exact O.small q z
    have m1 : (t.put j).1.mask = t.mask := by rw [k2]
    have d1 : (t.put j).1.led = !byText w := by rw [k2]; exact O.led
    have hfill : (t.put j).1.fill = es.size + 1 := by simp [SetTable.fill, k1.size, k1.dum]
    have ck : TabOk (t.put j).1 (SetTable.insertAt es (t.put j).2 (th p.1 p.2, Value.ref r)).size := by rw [hsz1]; exact k1
    cases hf : (t.put j).1.tooFull with
    | false =>
      simp only [Bool.not_false, Bool.and_false, Bool.false_eq_true, ↓reduceIte]
      simp only [SetTable.tooFull, hfill, decide_eq_false_iff_not] at hf
      exact wpAny_pure (h _ l1 tk sb1 ⟨_, _, _, ho1, kp, d1, ⟨ck, by rw [m1]; exact hmask, by rw [hsz1]; omega⟩, tups sb1 pe1, nd1, sm1⟩ pl1')
    | true =>
      simp only [Bool.not_false, Bool.and_true, ↓reduceIte]
      simp only [SetTable.tooFull, hfill, decide_eq_true_eq] at hf
      have h5 : es.size + 1 = 5 := by rcases hmask with q | q <;> rw [m1, q] at hf <;> rw [q] at hroom <;> omega
      have hw : SetTable.grown (es.size + 1) = 20 := by rw [h5]; rfl
      rw [hw]
      refine wpAny_bind (relay_core (s := { s with heap := _, toks := tk }) ho1 (ck.fits (by rw [hsz1, m1]; rcases hmask with q | q <;> rw [q] <;> omega)) (m := 31) (by rw [sizeAbove20]) (by rw [sizeAbove20, sizeLine_eq]; decide) (by rw [hsz1]; omega) (by rw [hsz1, sizeLine_eq]; omega) (fun e he => ?_) fun es2 t2 p2 c2 m2 pp2 l2 ho2 sb2 => ?_)
      · obtain ⟨i, hi, rfl⟩ := List.mem_iff_getElem.mp he
        obtain ⟨q, rq, hq, e1, tq, _⟩ := pe1.get (List.getElem?_eq_getElem hi)
        rw [e1]
        exact (goodH_at (good_pair (sm1 q (List.mem_of_getElem? hq))) (.inr (.inr rfl))).2
      · obtain ⟨l2', pe2, pl2⟩ := PEs.perm p2 pe1
        have hs2 : es2.size = es.size + 1 := by rw [← Array.length_toList, p2.length_eq, Array.length_toList, hsz1]
        have sb : Heap.SameBut a s.heap _ := sb1.trans sb2
        refine wpAny_pure (h _ l2' tk sb ⟨_, _, _, ho2, by rw [pp2, kp], by rw [l2, d1], ⟨?_, .inr m2, by rw [m2, hs2]; omega⟩, tups sb pe2, pl2.nodup_iff.mpr nd1, fun q hq => sm1 q (pl2.mem_iff.mp hq)⟩ (pl2.trans pl1'))
        rw [hs2]; rw [hsz1] at c2; exact c2
  exact key _
end
end Mine
end

section
open PySem PyProof.Rows
set_option Elab.async false
set_option maxRecDepth 100000
namespace Mine

def DEs : List DictEntry → List (Int × Addr) → Prop
  | [], [] => True
  | e :: es, p :: m => (∃ t, e = ⟨hashInt p.1, .int p.1 t, .ref p.2⟩) ∧ DEs es m
  | _, _ => False
theorem DEs.length : ∀ {es : List DictEntry} {m : List (Int × Addr)}, DEs es m → es.length = m.length
  | [], [], _ => rfl
  | _ :: _, _ :: _, h => by rw [List.length_cons, List.length_cons, DEs.length h.2]
  | [], _ :: _, h => h.elim
  | _ :: _, [], h => h.elim
theorem DEs.get : ∀ {es : List DictEntry} {m : List (Int × Addr)}, DEs es m → ∀ {i : Nat} {e : DictEntry}, es[i]? = some e → ∃ p t, m[i]? = some p ∧ e = ⟨hashInt p.1, .int p.1 t, .ref p.2⟩
  | [], [], _, i, e, he => by simp at he
  | [], _ :: _, h, _, _, _ => h.elim
  | _ :: _, [], h, _, _, _ => h.elim
  | e0 :: es, p :: m, h, 0, e, he => by
    obtain ⟨t, e1⟩ := h.1
    simp at he
    exact ⟨p, t, rfl, he ▸ e1⟩
  | e0 :: es, p :: m, h, i + 1, e, he => by
    simp only [List.getElem?_cons_succ] at he ⊢
    exact DEs.get h.2 he
theorem DEs.snoc : ∀ {es : List DictEntry} {m : List (Int × Addr)}, DEs es m → ∀ {k : Int} {t : Tok} {a : Addr}, DEs (es ++ [⟨hashInt k, .int k t, .ref a⟩]) (m ++ [(k, a)])
  | [], [], _, k, t, a => ⟨⟨t, rfl⟩, trivial⟩
  | [], _ :: _, h, _, _, _ => h.elim
  | _ :: _, [], h, _, _, _ => h.elim
  | _ :: _, _ :: _, h, k, t, a => ⟨h.1, DEs.snoc h.2⟩
/-- where a key's value is -/
def look (m : List (Int × Addr)) (k : Int) : Option Addr := (m.find? fun p => decide (p.1 = k)).map (·.2)
theorem DEs.find {prog : Program} {w : World} : ∀ {es : List DictEntry} {m : List (Int × Addr)}, DEs es m → ∀ k, (es.findIdx? fun e => (intKind prog w).is k e.key) = m.findIdx? fun p => decide (p.1 = k)
  | [], [], _, k => rfl
  | [], _ :: _, h, _ => h.elim
  | _ :: _, [], h, _ => h.elim
  | e :: es, p :: m, h, k => by
    obtain ⟨t, e1⟩ := h.1
    rw [List.findIdx?_cons, List.findIdx?_cons, DEs.find h.2 k]
    have : (intKind prog w).is k e.key = decide (p.1 = k) := by
      rw [e1]
      show (p.1 == k) = _
      rfl
    rw [this]
theorem DEs.keys {prog : Program} {w : World} {es : List DictEntry} {m : List (Int × Addr)} (h : DEs es m) : ∀ e, e ∈ es → ∃ k, (intKind prog w).is k e.key = true ∧ e.hash = (intKind prog w).hash k := by
  intro e he
  obtain ⟨i, hi, rfl⟩ := List.mem_iff_getElem.mp he
  obtain ⟨p, t, _, e1⟩ := h.get (List.getElem?_eq_getElem hi)
  rw [e1]
  exact ⟨p.1, intKind_is _ _ _ _, rfl⟩
theorem look_idx {m : List (Int × Addr)} {k : Int} : look m k = match m.findIdx? fun p => decide (p.1 = k) with | some i => m[i]?.map (·.2) | none => none := by
  induction m with
  | nil => rfl
  | cons p m ih =>
    unfold look at ih ⊢
    rw [List.find?_cons, List.findIdx?_cons]
    by_cases h : p.1 = k
    · simp [h]
    · simp only [h, decide_false, Bool.false_eq_true, ↓reduceIte]
      rw [ih]
      cases m.findIdx? _ <;> simp

inductive DC : String → Array (Option Value) → Prop
  | dict : DC "dict" #[]
  | dd : DC "collections.defaultdict" #[some (.type "set")]
@[reducible] def dO (c : String) (sl : Array (Option Value)) (es : Array DictEntry) (ep : Nat) : Obj := { cls := .type c, data := .dict es ep, slots := sl }
/-- a table from ints to objects, plain or a defaultdict of sets -/
def DT (h : Heap) (d : Addr) (c : String) (sl : Array (Option Value)) (ep : Nat) (m : List (Int × Addr)) : Prop :=
  ∃ es, h.get? d = some (dO c sl es ep) ∧ DC c sl ∧ DEs es.toList m ∧ (m.map (·.1)).Nodup ∧ d ≠ sysModules
theorem DT.at {h h' : Heap} {d : Addr} {c : String} {sl : Array (Option Value)} {ep : Nat} {m : List (Int × Addr)} {xs : List Addr} (x : DT h d c sl ep m) (u : Upto xs h h') (hd : d ∉ xs) : DT h' d c sl ep m :=
  let ⟨es, ho, r⟩ := x; ⟨es, u.at ho hd, r⟩
theorem DT.type {s : Shared} {d : Addr} {c : String} {sl : Array (Option Value)} {ep : Nat} {m : List (Int × Addr)} (x : DT s.heap d c sl ep m) : s.TypeIs (.ref d) c := let ⟨_, ho, _⟩ := x; ⟨_, ho, rfl⟩
theorem DT.get {h : Heap} {d : Addr} {c : String} {sl : Array (Option Value)} {ep : Nat} {m : List (Int × Addr)} (x : DT h d c sl ep m) : ∃ o, h.get? d = some o ∧ o.cls = .type c := let ⟨_, ho, _⟩ := x; ⟨_, ho, rfl⟩
theorem DT.nodup {h : Heap} {d : Addr} {c : String} {sl : Array (Option Value)} {ep : Nat} {m : List (Int × Addr)} (x : DT h d c sl ep m) : (m.map (·.1)).Nodup := let ⟨_, _, _, _, n, _⟩ := x; n
theorem DT.apart {h : Heap} {d : Addr} {c : String} {sl : Array (Option Value)} {ep : Nat} {m : List (Int × Addr)} (x : DT h d c sl ep m) : (d == sysModules) = false := let ⟨_, _, _, _, _, n⟩ := x; beq_false_of_ne n

namespace DD
theorem slot_iter : Slot "collections.defaultdict" "__iter__" "dict.__iter__" :=
  .of (owner := "dict") (n := "__iter__") (by rw [typeLookup_type, builtinLookup_eq_fast]; kernel_rfl) (by decide +kernel) (by decide +kernel) (by decide +kernel)
    (by first | exact .inl (by decide +kernel) | exact .inr (by decide +kernel)) (by rw [isSubtype_type]; kernel_rfl)
theorem slot_getitem : Slot "collections.defaultdict" "__getitem__" "dict.__getitem__" :=
  .of (owner := "dict") (n := "__getitem__") (by rw [typeLookup_type, builtinLookup_eq_fast]; kernel_rfl) (by decide +kernel) (by decide +kernel) (by decide +kernel)
    (by first | exact .inl (by decide +kernel) | exact .inr (by decide +kernel)) (by rw [isSubtype_type]; kernel_rfl)
theorem slot_missing : Slot "collections.defaultdict" "__missing__" "collections.defaultdict.__missing__" :=
  .of (owner := "collections.defaultdict") (n := "__missing__") (by rw [typeLookup_type, builtinLookup_eq_fast]; kernel_rfl) (by decide +kernel) (by decide +kernel) (by decide +kernel)
    (by first | exact .inl (by decide +kernel) | exact .inr (by decide +kernel)) (by rw [isSubtype_type]; kernel_rfl)
theorem entry_missing : entryFor table "collections.defaultdict.__missing__" = some Builtin.«collections.defaultdict.__missing__» := entryFor_of_tree (by kernel_rfl)
theorem args_missing (a b : Value) : argsOk "collections.defaultdict.__missing__" ⟨[a, b], []⟩ := by unfold argsOk; kernel_rfl
theorem slot_init : Slot "collections.defaultdict" "__init__" "collections.defaultdict.__init__" :=
  .of (owner := "collections.defaultdict") (n := "__init__") (by rw [typeLookup_type, builtinLookup_eq_fast]; kernel_rfl) (by decide +kernel) (by decide +kernel) (by decide +kernel)
    (by first | exact .inl (by decide +kernel) | exact .inr (by decide +kernel)) (by rw [isSubtype_type]; kernel_rfl)
theorem entry_init : entryFor table "collections.defaultdict.__init__" = some Builtin.«collections.defaultdict.__init__» := entryFor_of_tree (by kernel_rfl)
theorem args_init (a b : Value) : argsOk "collections.defaultdict.__init__" ⟨[a, b], []⟩ := by unfold argsOk; kernel_rfl
theorem mro : mroOf (.type "collections.defaultdict") = pure [.type "collections.defaultdict", .type "dict", .type "object"] := by rw [mroOf_type]; kernel_rfl
theorem lookup_new : typeLookup (.type "collections.defaultdict") "__new__" = pure (some (.builtin "dict.__new__")) := by rw [typeLookup_type, builtinLookup_eq_fast]; kernel_rfl
theorem sub_self : isSubtype (.type "collections.defaultdict") (.type "collections.defaultdict") = pure true := by rw [isSubtype_type]; kernel_rfl
theorem sub_dict : isSubtype (.type "collections.defaultdict") (.type "dict") = pure true := by rw [isSubtype_type]; kernel_rfl
theorem sub_ordered : isSubtype (.type "collections.defaultdict") (.type "collections.OrderedDict") = pure false := by rw [isSubtype_type]; kernel_rfl
theorem made : Bind.madeBy (.type "collections.defaultdict") = pure (some "dict.__new__") := madeBy_type mro lookup_new (by decide +kernel)
theorem called : TypeCalled "collections.defaultdict" "dict.__new__" "collections.defaultdict.__init__" :=
  ⟨by decide +kernel, by decide +kernel, ⟨_, _, mro⟩, made, by decide +kernel, sub_self, slot_init⟩
theorem typeCall (a : Value) : checkTypeCall "collections.defaultdict" ⟨[a], []⟩ = pure () := by kernel_rfl
theorem newCall (a : Value) : checkBuiltinCall "dict.__new__" ⟨[.type "collections.defaultdict", a], []⟩ = pure () := by kernel_rfl
theorem entry_new : entryFor table "dict.__new__" = some Builtin.«dict.__new__» := entryFor_of_tree (by kernel_rfl)
theorem plain_new : plainId "dict.__new__" = true := by decide +kernel
theorem plain_dinit : plainId "dict.__init__" = true := by decide +kernel
theorem entry_dinit : entryFor table "dict.__init__" = some Builtin.«dict.__init__» := entryFor_of_tree (by kernel_rfl)
theorem plain_setdef : plainId "dict.setdefault" = true := by decide +kernel
theorem entry_setdef : entryFor table "dict.setdefault" = some Builtin.«dict.setdefault» := entryFor_of_tree (by kernel_rfl)
theorem call_type_call : typeLookup (.type "type") "__call__" = pure (some (.builtin "type.__call__")) := by rw [typeLookup_type, builtinLookup_eq_fast]; kernel_rfl
end DD
end Mine
end

section
open PySem PyProof.Rows
set_option Elab.async false
set_option maxRecDepth 100000
namespace Mine

theorem arr_findIdx {α : Type} (es : Array α) (f : α → Bool) : es.findIdx? f = es.toList.findIdx? f := by obtain ⟨l⟩ := es; simp
theorem DC.isDD {c : String} {sl : Array (Option Value)} (h : DC c sl) (e : c = "collections.defaultdict") : sl = #[some (.type "set")] := by
  cases h
  · exact absurd e (by decide)
  · rfl
theorem wpAny_borrowed {M : Model} {A : Around} {E : Value → Shared → Prop} {s : Shared} {f : Value} {pos : List Value} {Q : Value → Shared → Prop} (h : wpAny M A (call f pos) Q E s) :
    wpAny M A (callBorrowed f pos) Q E s := by
  intro Γ p hΓ
  have h' := h Γ p hΓ
  rw [Sem.wp_cmd_call] at h'
  unfold callBorrowed
  rw [Sem.wp_call]
  have e : (fun (r : Result) (s' : Shared) => Sem.wp M Γ ((fun | .ok (.ret v) => Sem.pure v | .ok _ => .unsupported "internal:call-without-return-value" | .error e => .raise e : Result → Sem Value) r) (fun a _ s' => Q a s') (fun e _ s' => E e s') p s') =
      fun (r : Result) (s' : Shared) => (match r with | .ok (.ret v) => Q v s' | .ok _ => False | .error e => E e s') := by
    funext r s'
    cases r with
    | error e => rfl
    | ok f => cases f <;> rfl
  exact e ▸ h'

section
variable {prog : Program} {w : World} {A : Around} {E : Value → Shared → Prop} {s : Shared} {d : Addr} {c : String} {sl : Array (Option Value)} {ep : Nat} {m : List (Int × Addr)} {k : Int} {t : Tok}

theorem notOrd {name : String} {args : Args} {Q : Unit → Shared → Prop} (hc : DC c sl) (hT : s.TypeIs (args.pos.headD .none) c) (h : Q () s) : wpAny (model prog w) A (Builtin.Dict.notOrdered name args) Q E s := by
  cases hc with
  | dict => exact wpAny_notOrdered_dict hT h
  | dd =>
    unfold Builtin.Dict.notOrdered
    split
    · refine wpAny_bind (wpAny_typeOf hT ?_)
      show wpAny _ _ (if (Value.type "collections.defaultdict" != Value.type "dict") = true then _ else _) _ _ s
      rw [if_pos (by decide)]
      refine wpAny_bind (wpAny_isInstance hT DD.sub_ordered ?_)
      exact wpAny_pure h
    · exact wpAny_pure h

theorem dictGet_DT {Q : Option Value → Shared → Prop} (hm : DT s.heap d c sl ep m) (h : Q ((look m k).map .ref) { s with toks := s.toks + 1 }) : wpAny (model prog w) A (dictGet d (.int k t)) Q E s := by
  obtain ⟨es, ho, _, hE, _⟩ := hm
  have hf := hE.find (prog := prog) (w := w) k
  unfold dictGet
  refine wpAny_holding (wpAny_bind ((intKind prog w).pyHash (k := k) (intKind_is _ _ _ _) ?_))
  refine wpAny_bind (wpAny_dictFind_of (knd := intKind prog w) (k := k) (s := { s with toks := s.toks + 1 }) (intKind_is _ _ _ _) ho rfl (fun e he => hE.keys e (by simpa using he)) ?_)
  rw [arr_findIdx, hf]
  rw [look_idx] at h
  cases hi : m.findIdx? fun p => decide (p.1 = k) with
  | none => rw [hi] at h; exact wpAny_pure h
  | some i =>
    rw [hi] at h
    refine wpAny_bind (wpAny_dictEntries (s := { s with toks := s.toks + 1 }) ho rfl (wpAny_pure ?_))
    obtain ⟨hlt, _⟩ := List.findIdx?_eq_some_iff_getElem.mp hi
    have hlt' : i < es.toList.length := by rw [hE.length]; exact hlt
    obtain ⟨p, tt, hp, he⟩ := hE.get (List.getElem?_eq_getElem hlt')
    dsimp only at h
    rw [hp] at h
    have : es[i]? = some es.toList[i] := by rw [← Array.getElem?_toList]; exact List.getElem?_eq_getElem hlt'
    rw [this, he]
    exact h

/-- d[k], there -/
theorem getItem_hit {b : Addr} {Q : Value → Shared → Prop} (hm : DT s.heap d c sl ep m) (hb : look m k = some b) (h : Q (.ref b) { s with toks := s.toks + 1 }) : wpAny (model prog w) A (getItem (.ref d) (.int k t)) Q E s := by
  have hT := hm.type
  have core : wpAny (model prog w) A.in1 (Builtin.«dict.__getitem__» ⟨[.ref d, .int k t], []⟩) (fun fin s' => ∃ v, fin = .done (.ret v) ∧ Q v s') E s := by
    show wpAny _ _ (dictGet d (.int k t) >>= _) _ _ s
    refine wpAny_bind (dictGet_DT hm ?_)
    rw [hb]
    exact wpAny_pure ⟨_, rfl, h⟩
  unfold getItem
  refine wpAny_holding ?_
  obtain ⟨_, _, hc, _⟩ := id hm
  cases hc with
  | dict =>
    refine wpAny_bind (wpAny_sequenceKey hT (by decide) ?_)
    exact wpAny_bind (wpAny_callSpecial?_slot (name := Str.ofString "__getitem__") hT slot_dict_getitem
      (wpAny_call_entry slot_dict_getitem hT entry_dict_getitem (wpAny_mono core (fun _ _ ⟨v, e, q⟩ => ⟨v, e, wpAny_pure q⟩) fun _ _ e => e) (args_dict_getitem _ _)))
  | dd =>
    refine wpAny_bind (wpAny_sequenceKey hT (by decide) ?_)
    exact wpAny_bind (wpAny_callSpecial?_slot (name := Str.ofString "__getitem__") hT DD.slot_getitem
      (wpAny_call_entry DD.slot_getitem hT entry_dict_getitem (wpAny_mono core (fun _ _ ⟨v, e, q⟩ => ⟨v, e, wpAny_pure q⟩) fun _ _ e => e) (args_dict_getitem _ _)))

theorem dO_mapDictKeys {es : Array DictEntry} (f : Array DictEntry → Array DictEntry) : (dO c sl es ep).mapDictKeys f = dO c sl (f es) (ep + 1) := rfl
theorem DT.push {h : Heap} {es : Array DictEntry} {a : Addr} (ho : h.get? d = some (dO c sl es ep)) (hc : DC c sl) (hE : DEs es.toList m) (hn : (m.map (·.1)).Nodup) (ha : d ≠ sysModules) (hk : look m k = none) :
    DT (h.update d (Obj.mapDictKeys (·.push ⟨hashInt k, .int k t, .ref a⟩))) d c sl (ep + 1) (m ++ [(k, a)]) := by
  refine ⟨es.push ⟨hashInt k, .int k t, .ref a⟩, ?_, hc, by rw [Array.toList_push]; exact hE.snoc, ?_, ha⟩
  · rw [Heap.get?_update_self _ ho rfl]
    rfl
  · rw [List.map_append, List.nodup_append]
    refine ⟨hn, by simp, ?_⟩
    intro x hx y hy
    simp at hy
    subst hy
    rintro rfl
    obtain ⟨p, hp, rfl⟩ := List.mem_map.mp hx
    unfold look at hk
    simp only [Option.map_eq_none_iff, List.find?_eq_none, decide_eq_true_eq] at hk
    exact hk p hp rfl

/-- storing under a new key -/
theorem dictSet_new {a : Addr} {Q : Unit → Shared → Prop} (hm : DT s.heap d c sl ep m) (hk : look m k = none) (hl : m.length < 100)
    (h : ∀ h', Heap.SameBut d s.heap h' → DT h' d c sl (ep + 1) (m ++ [(k, a)]) → Q () { s with heap := h', toks := s.toks + 1 }) : wpAny (model prog w) A (dictSet d (.int k t) (.ref a)) Q E s := by
  obtain ⟨es, ho, hc, hE, hn, ha⟩ := id hm
  have hf := hE.find (prog := prog) (w := w) k
  have hfn : (m.findIdx? fun p => decide (p.1 = k)) = none := by
    unfold look at hk
    simp only [Option.map_eq_none_iff, List.find?_eq_none] at hk
    exact List.findIdx?_eq_none_iff.mpr fun x hx => by simpa using hk x hx
  unfold dictSet
  refine wpAny_holding (wpAny_bind ((intKind prog w).pyHash (k := k) (intKind_is _ _ _ _) ?_))
  unfold dictSetHashed
  refine wpAny_holding ?_
  refine wpAny_bind (wpAny_dictFind_of (knd := intKind prog w) (k := k) (s := { s with toks := s.toks + 1 }) (intKind_is _ _ _ _) ho rfl (fun e he => hE.keys e (by simpa using he)) ?_)
  rw [arr_findIdx, hf, hfn]
  have hz : es.size ≤ sizeLine := by rw [← Array.length_toList, hE.length, sizeLine_eq]; omega
  exact wpAny_bind (wpAny_rule (wpAny_updateDictKeys (s := { s with toks := s.toks + 1 }) ho rfl (h _ (Heap.SameBut.update ..) (DT.push ho hc hE hn ha hk)) hz))

theorem dictSetDefault_new {a : Addr} {Q : Value → Shared → Prop} (hm : DT s.heap d c sl ep m) (hk : look m k = none) (hl : m.length < 100)
    (h : ∀ h', Heap.SameBut d s.heap h' → DT h' d c sl (ep + 1) (m ++ [(k, a)]) → Q (.ref a) { s with heap := h', toks := s.toks + 1 }) : wpAny (model prog w) A (dictSetDefault d (.int k t) (.ref a)) Q E s := by
  obtain ⟨es, ho, hc, hE, hn, ha⟩ := id hm
  have hf := hE.find (prog := prog) (w := w) k
  have hfn : (m.findIdx? fun p => decide (p.1 = k)) = none := by
    unfold look at hk
    simp only [Option.map_eq_none_iff, List.find?_eq_none] at hk
    exact List.findIdx?_eq_none_iff.mpr fun x hx => by simpa using hk x hx
  unfold dictSetDefault
  refine wpAny_holding (wpAny_bind ((intKind prog w).pyHash (k := k) (intKind_is _ _ _ _) ?_))
  refine wpAny_bind (wpAny_dictFind_of (knd := intKind prog w) (k := k) (s := { s with toks := s.toks + 1 }) (intKind_is _ _ _ _) ho rfl (fun e he => hE.keys e (by simpa using he)) ?_)
  rw [arr_findIdx, hf, hfn]
  have hz : es.size ≤ sizeLine := by rw [← Array.length_toList, hE.length, sizeLine_eq]; omega
  exact wpAny_bind (wpAny_rule (wpAny_bind (wpAny_updateDictKeys (s := { s with toks := s.toks + 1 }) ho rfl (wpAny_pure (h _ (Heap.SameBut.update ..) (DT.push ho hc hE hn ha hk))) hz)))

theorem dd_slot {es : Array DictEntry} {i : Nat} {Q : Option Value → Shared → Prop} (ho : s.heap.get? d = some (dO c sl es ep)) (h : Q (sl[i]?).join s) : wpAny (model prog w) A (PySem.slotAt d i) Q E s := by
  unfold PySem.slotAt
  exact wpAny_bind (wpAny_loadPart ho (wpAny_pure h))

/-- d[k] of a defaultdict of sets, not there: a new set is laid down -/
theorem getItem_miss {Q : Value → Shared → Prop} (hm : DT s.heap d "collections.defaultdict" sl ep m) (hk : look m k = none) (hl : m.length < 100)
    (h : ∀ h' tk, Upto [d] s.heap h' → DT h' d "collections.defaultdict" sl (ep + 1) (m ++ [(k, s.heap.objs.size)]) → h'.get? s.heap.objs.size = some (emptySet w) → h'.objs.size = s.heap.objs.size + 1 →
      Q (.ref s.heap.objs.size) { s with heap := h', toks := tk }) : wpAny (model prog w) A (getItem (.ref d) (.int k t)) Q E s := by
  have hT := hm.type
  have hdc : DC "collections.defaultdict" sl := let ⟨_, _, hc, _⟩ := hm; hc
  obtain rfl := hdc.isDD rfl
  unfold getItem
  refine wpAny_holding (wpAny_bind (wpAny_sequenceKey hT (by decide) ?_))
  refine wpAny_bind (wpAny_callSpecial?_slot (name := Str.ofString "__getitem__") hT DD.slot_getitem
      (wpAny_call_entry DD.slot_getitem hT entry_dict_getitem ?_ (args_dict_getitem _ _)))
  show wpAny _ _ (dictGet d (.int k t) >>= _) _ _ s
  refine wpAny_bind (dictGet_DT hm ?_)
  rw [hk]
  simp only [Option.map_none]
  show wpAny _ _ (Builtin.Dict.missed d _ >>= _) _ _ _
  refine wpAny_bind ?_
  unfold Builtin.Dict.missed
  rw [if_neg (by rw [hm.apart]; exact Bool.false_ne_true)]
  refine wpAny_pure ?_
  dsimp only
  refine wpAny_bind (wpAny_typeOf (s := { s with toks := s.toks + 1 }) hT ?_)
  rw [if_pos (by decide)]
  refine wpAny_bind ?_
  refine wpAny_callSpecial?_slot (s := { s with toks := s.toks + 1 }) (name := Str.ofString "__missing__") hT DD.slot_missing ?_
  refine wpAny_call (codeAny_call_builtin DD.slot_missing.plain DD.entry_missing (DD.slot_missing.check _ _ _ { s with toks := s.toks + 1 } _ _ _ _ hT (DD.args_missing _ _) ?_))
  obtain ⟨es, ho, hc, hE, hn, ha⟩ := id hm
  unfold Builtin.«collections.defaultdict.__missing__»
  refine wpAny_bind (wpAny_pure ?_)
  refine wpAny_bind ?_
  unfold Builtin.Collections_defaultdict.factory?
  refine wpAny_bind (dd_slot (s := { s with toks := s.toks + 1 }) ho (wpAny_pure ?_))
  show wpAny _ _ (callOutOfASlot (.type "set") >>= _) _ _ _
  refine wpAny_bind ?_
  unfold callOutOfASlot borrowsExactly
  refine wpAny_bind (wpAny_pure ?_)
  rw [if_pos rfl]
  refine wpAny_borrowed (call_set_led (s := { s with toks := s.toks + 1 }) ?_)
  dsimp only
  refine wpAny_pure ⟨plainId_quiet DD.plain_setdef _, codeAny_builtin DD.entry_setdef ?_⟩
  rw [Around.under_plainId DD.plain_setdef _]
  have hm1 : DT (s.heap.push (emptySet w)) d "collections.defaultdict" #[some (.type "set")] ep m := hm.at (xs := []) (Upto.push _) (by simp)
  unfold Builtin.«dict.setdefault»
  refine wpAny_bind ?_
  unfold Builtin.Dict.keyAndDefault
  refine wpAny_bind (notOrd (s := { s with heap := _, toks := s.toks + 1 }) hc hm1.type ?_)
  refine wpAny_bind (wpAny_pure ?_)
  refine wpAny_bind (wpAny_pure ?_)
  dsimp only
  refine wpAny_bind (wpAny_pure ?_)
  refine wpAny_pure ?_
  dsimp only
  rw [if_neg (by rw [hm.apart]; exact Bool.false_ne_true)]
  refine wpAny_bind ?_
  refine dictSetDefault_new (s := { s with heap := s.heap.push (emptySet w), toks := s.toks + 1 }) hm1 hk hl fun h' sb hd' => ?_
  have hne : s.heap.objs.size ≠ d := fun e => ne_size ho e.symm
  refine wpAny_pure ?_
  dsimp only
  refine wpAny_bind (wpAny_rule (wpAny_pure ⟨_, rfl, wpAny_pure ?_⟩))
  refine h h' _ (fun b o hb e => ?_) hd' ?_ ?_
  · rw [sb.2 b (by simpa using hb)]; exact Heap.get?_push_of_some _ e
  · rw [sb.2 _ hne]; exact Heap.get?_push_size _ rfl
  · rw [sb.1, Heap.size_push]

/-- d[k] = v under a new key, d a plain dict -/
theorem setItem_new {a : Addr} {Q : Unit → Shared → Prop} (hm : DT s.heap d "dict" sl ep m) (hk : look m k = none) (hl : m.length < 100)
    (h : ∀ h' tk, Heap.SameBut d s.heap h' → DT h' d "dict" sl (ep + 1) (m ++ [(k, a)]) → Q () { s with heap := h', toks := tk }) : wpAny (model prog w) A (setItem (.ref d) (.int k t) (.ref a)) Q E s := by
  have hT := hm.type
  unfold setItem
  refine wpAny_holding ?_
  refine wpAny_bind (wpAny_sequenceKey hT (by decide) ?_)
  refine wpAny_bind (wpAny_callSpecial?_slot (name := Str.ofString "__setitem__") hT slot_dict_setitem
    (wpAny_call_entry slot_dict_setitem hT entry_dict_setitem ?_ (args_dict_setitem _ _ _)))
  show wpAny _ _ (Builtin.Dict.notOrdered "__setitem__" ⟨[.ref d, .int k t, .ref a], []⟩ >>= _) _ _ s
  refine wpAny_bind (wpAny_notOrdered_dict hT ?_)
  show wpAny _ _ (dictSet d (.int k t) (.ref a) >>= _) _ _ s
  exact wpAny_bind (dictSet_new hm hk hl fun h' sb hd => wpAny_pure ⟨.none, rfl, wpAny_pure (h h' _ sb hd)⟩)

theorem notIn_dict {Q : Value → Shared → Prop} (hm : DT s.heap d "dict" sl ep m) (h : Q (.bool (look m k).isNone) { s with toks := s.toks + 1 }) : wpAny (model prog w) A (compareOp .NotIn (.int k t) (.ref d)) Q E s := by
  have hT := hm.type
  show wpAny _ _ (do return .bool (!(← contains (.ref d) (.int k t)))) Q E s
  refine wpAny_bind ?_
  unfold contains
  refine wpAny_holding ?_
  refine wpAny_bind (wpAny_specialOf hT slot_dict_contains.lookup ?_)
  show wpAny _ _ (if (some (Value.builtin "dict.__contains__") == some Value.none) = true then _ else _) _ E s
  rw [if_neg (by rw [beq_builtin_none]; exact Bool.false_ne_true)]
  refine wpAny_bind (wpAny_callSpecialUnlessNone?_slot (name := Str.ofString "__contains__") hT slot_dict_contains
    (wpAny_call_entry slot_dict_contains hT entry_dict_contains ?_ (args_dict_contains _ _)))
  show wpAny _ _ (dictGet d (.int k t) >>= _) _ _ s
  refine wpAny_bind (dictGet_DT hm ?_)
  cases hf : look m k with
  | some v =>
    rw [hf] at h
    exact wpAny_pure ⟨_, rfl, wpAny_truthy_bool (wpAny_pure h)⟩
  | none =>
    rw [hf] at h
    show wpAny _ _ (Builtin.Dict.pendingKey? d _ >>= _) _ _ _
    exact wpAny_bind (wpAny_pendingKey_other hm.apart (wpAny_pure ⟨_, rfl, wpAny_truthy_bool (wpAny_pure h)⟩))

theorem code_dd_new (x : Value) {Q₁ : Value → Shared → Prop} (h : Q₁ (.ref s.heap.objs.size) { s with heap := s.heap.push (dO "collections.defaultdict" #[] #[] 0) }) :
    codeAny (model prog w) A (.call (.builtin "dict.__new__") ⟨[.type "collections.defaultdict", x], []⟩) (wants Q₁ E) s := by
  refine codeAny_call_builtin DD.plain_new DD.entry_new (wpAny_of_eq (DD.newCall x) ?_)
  have hsub := DD.sub_dict
  have hmro := DD.mro
  obtain ⟨hp, g, d, tk, os⟩ := s
  unfold Builtin.«dict.__new__»
  wp_walk
  exact h

/-- defaultdict(set) -/
theorem call_dd {Q : Value → Shared → Prop} (hz : s.heap.objs.size ≠ sysModules)
    (h : ∀ h' tk, Upto [] s.heap h' → DT h' s.heap.objs.size "collections.defaultdict" #[some (.type "set")] 0 [] → h'.objs.size = s.heap.objs.size + 1 → Q (.ref s.heap.objs.size) { s with heap := h', toks := tk }) :
    wpAny (model prog w) A (call (.type "collections.defaultdict") [.type "set"]) Q E s := by
  refine callType_codes (Q₁ := fun obj s₁ => obj = .ref s.heap.objs.size ∧ s₁ = { s with heap := s.heap.push (dO "collections.defaultdict" #[] #[] 0) }) DD.called (DD.typeCall _) DD.entry_init (code_dd_new _ ⟨rfl, rfl⟩) ?_
  rintro obj s₁ ⟨rfl, rfl⟩
  have ho : (s.heap.push (dO "collections.defaultdict" #[] #[] 0)).get? s.heap.objs.size = some (dO "collections.defaultdict" #[] #[] 0) := Heap.get?_push_size _ rfl
  refine ⟨⟨_, ho, rfl⟩, DD.args_init _ _, ?_⟩
  unfold Builtin.«collections.defaultdict.__init__»
  dsimp only
  refine wpAny_bind (wpAny_pure ?_)
  rw [if_neg (by simp)]
  refine wpAny_bind (dd_slot (s := { s with heap := _ }) ho ?_)
  have hd1 := Heap.get?_update_self (fun o => { o with slots := (o.slots ++ Array.replicate (0 + 1 - o.slots.size) none).setIfInBounds 0 (some (.type "set")) }) ho rfl
  refine wpAny_bind ?_
  unfold Builtin.Collections_defaultdict.setFactory
  refine wpAny_bind (dd_slot (s := { s with heap := _ }) ho ?_)
  show wpAny _ _ (if (some Value.none != some (Value.type "set")) = true then _ else _) _ _ _
  rw [if_pos (by decide)]
  refine wpAny_bind (wpAny_pure ?_)
  unfold setSlotAt
  rw [if_neg (by rw [sizeLine_eq]; decide)]
  refine wpAny_updatePart ho ?_
  dsimp only
  refine wpAny_bind (wpAny_holding (wpAny_runValue (codeAny_builtin DD.entry_dinit ?_)))
  rw [Around.under_plainId DD.plain_dinit _]
  unfold Builtin.«dict.__init__»
  refine wpAny_bind ?_
  unfold Builtin.Dict.selfAndRest
  refine wpAny_bind (notOrd (s := { s with heap := _ }) DC.dd ⟨_, hd1, rfl⟩ ?_)
  refine wpAny_pure ?_
  dsimp only
  unfold Builtin.Dict.updateCommon
  show wpAny _ _ (Builtin.Dict.addKeywords s.heap.objs.size [] >>= _) _ _ _
  refine wpAny_bind (wpAny_pure (wpAny_pure ?_))
  refine wpAny_pure ⟨rfl, h _ _ (fun b o _ e => ?_) ⟨#[], ?_, .dd, trivial, .nil, hz⟩ ?_⟩
  · have hne : b ≠ s.heap.objs.size := ne_size e
    rw [Heap.get?_update_other _ _ (fun e => hne e.symm)]
    exact Heap.get?_push_of_some _ e
  · exact hd1.trans rfl
  · rw [(Heap.SameBut.update ..).1, Heap.size_push]
end
end Mine
end

section
open PySem PyProof.Rows
set_option Elab.async false
set_option maxRecDepth 100000
namespace Mine

@[reducible] def keyIterO (d : Addr) (i n ep : Nat) : Obj := { cls := .type "dict_keyiterator", data := .fields #[.ref d, .int i 0, .int n 0, .int ep 0] }

section
variable {prog : Program} {w : World} {A : Around} {E : Value → Shared → Prop} {s : Shared} {d I : Addr} {c : String} {sl : Array (Option Value)} {ep : Nat} {m : List (Int × Addr)} {k : Int} {t : Tok}

theorem pyIter_DT {Q : Value → Shared → Prop} (hm : DT s.heap d c sl ep m) (h : Q (.ref s.heap.objs.size) { s with heap := s.heap.push (keyIterO d 0 m.length ep) }) : wpAny (model prog w) A (pyIter (.ref d)) Q E s := by
  obtain ⟨es, ho, hc, hE, hn, ha⟩ := id hm
  have hT := hm.type
  have core : wpAny (model prog w) A.in1 (Builtin.«dict.__iter__» ⟨[.ref d], []⟩) (fun fin s' => ∃ v, fin = .done (.ret v) ∧ v = .ref s.heap.objs.size ∧ s' = { s with heap := s.heap.push (keyIterO d 0 m.length ep) }) E s := by
    unfold Builtin.«dict.__iter__»
    refine wpAny_bind ?_
    unfold Builtin.Dict.dictSlotNone
    refine wpAny_bind (notOrd hc hT ?_)
    show wpAny _ _ (pure (Value.ref d)) _ _ s
    refine wpAny_pure ?_
    show wpAny _ _ (Builtin.Dict.showsAll d >>= _) _ _ s
    unfold Builtin.Dict.showsAll
    rw [if_neg (by rw [hm.apart]; exact Bool.false_ne_true)]
    refine wpAny_bind (wpAny_pure ?_)
    refine wpAny_bind (wpAny_dictEntries ho rfl ?_)
    refine wpAny_bind (wpAny_dictEpoch ho rfl ?_)
    have hsz : es.size = m.length := by rw [← hE.length]; simp
    refine wpAny_bind (wpAny_newObj_type (wpAny_pure ⟨_, rfl, rfl, ?_⟩))
    simp [rawInt, hsz, keyIterO]
  cases hc with
  | dict => exact wpAny_pyIter_slot hT F.slot_dict_iter (wpAny_call_entry F.slot_dict_iter hT F.entry_dict_iter (wpAny_mono core (fun _ _ ⟨v, e, ev, es⟩ => by
      subst ev; subst es
      exact ⟨_, e, "dict_keyiterator", _, ⟨_, Heap.get?_push_size _ rfl, rfl⟩, F.slot_dict_keyiterator_next.lookup, h⟩) fun _ _ e => e) (F.args_dict_iter_1 _))
  | dd => exact wpAny_pyIter_slot hT DD.slot_iter (wpAny_call_entry DD.slot_iter hT F.entry_dict_iter (wpAny_mono core (fun _ _ ⟨v, e, ev, es⟩ => by
      subst ev; subst es
      exact ⟨_, e, "dict_keyiterator", _, ⟨_, Heap.get?_push_size _ rfl, rfl⟩, F.slot_dict_keyiterator_next.lookup, h⟩) fun _ _ e => e) (F.args_dict_iter_1 _))

theorem keyIter_next {i : Nat} {p : Int × Addr} {Q : Option Value → Shared → Prop} (hI : s.heap.get? I = some (keyIterO d i m.length ep)) (hm : DT s.heap d c sl ep m) (hx : m[i]? = some p)
    (h : ∀ t h', h'.get? I = some (keyIterO d (i + 1) m.length ep) → Heap.SameBut I s.heap h' → Q (some (.int p.1 t)) { s with heap := h' }) : wpAny (model prog w) A (pyNext (.ref I)) Q E s := by
  obtain ⟨es, ho, hc, hE, hn, ha⟩ := id hm
  have hT : s.TypeIs (.ref I) "dict_keyiterator" := ⟨_, hI, rfl⟩
  unfold pyNext
  refine wpAny_bind (wpAny_attempt (wpAny_callSpecial?_slot (name := Str.ofString "__next__") hT F.slot_dict_keyiterator_next
    (wpAny_call_entry F.slot_dict_keyiterator_next hT F.entry_dict_keyiterator_next ?_ (F.args_dict_keyiterator_next_1 _))))
  refine wpAny_bind (wpAny_pure ?_)
  refine wpAny_bind ?_
  refine wpAny_bind ?_
  first | refine wpAny_bind (wpAny_typeNameOfWhole_keyiter hT (wpAny_pure ?_)) | refine wpAny_bind (wpAny_typeNameOf_keyiter hT (wpAny_pure ?_))
  refine wpAny_bind (wpAny_fieldsOf hI rfl ?_)
  have hown : Builtin.Dict_items.ownsTuple "dict_keyiterator" = false := by decide
  simp only [hown, Bool.false_eq_true, if_false]
  show wpAny _ _ (if (Value.ref d == Value.none) = true then _ else _) _ _ s
  rw [if_neg (show ¬ ((Value.ref d == Value.none) = true) from Bool.false_ne_true)]
  refine wpAny_bind (wpAny_pure ?_)
  refine wpAny_bind (wpAny_dictEntries ho rfl ?_)
  have hsz : es.size = m.length := by rw [← hE.length]; simp
  rw [if_neg (by rw [hsz]; simp)]
  refine wpAny_bind (wpAny_pure ?_)
  refine wpAny_bind (wpAny_dictEpoch ho rfl ?_)
  rw [if_neg (by simp)]
  refine wpAny_pure ?_
  have hlt : i < m.length := (List.getElem?_eq_some_iff.mp hx).1
  have hlt' : i < es.size := by rw [hsz]; exact hlt
  obtain ⟨p', tt, hp', he⟩ := hE.get (i := i) (e := es[i]) (by simp [hlt'])
  have hpp : p' = p := by rw [hx] at hp'; exact (Option.some.inj hp').symm
  subst hpp
  simp only [show ¬ ((i : Int) < 0) from by omega, if_false, Int.toNat_natCast, Array.getElem?_eq_getElem hlt']
  refine wpAny_bind ?_
  first | refine wpAny_bind (wpAny_typeNameOfWhole_keyiter hT (wpAny_pure ?_)) | refine wpAny_bind (wpAny_typeNameOf_keyiter hT (wpAny_pure ?_))
  refine wpAny_bind (wpAny_isOneOf_keyiter hT ?_)
  show wpAny _ _ (setField (.ref I) 1 (rawInt ((i : Int) + 1)) >>= _) _ _ s
  refine wpAny_bind (wpAny_setField hI rfl (by simp) ?_)
  have hI' : (s.heap.update I (Obj.mapFields (·.setIfInBounds 1 (rawInt ((i : Int) + 1))))).get? I = some (keyIterO d (i + 1) m.length ep) := by
    rw [Heap.get?_update_self _ hI rfl]; rfl
  refine wpAny_bind (wpAny_holding ?_)
  refine wpAny_bind (wpAny_isOneOf_keyiter (s := { s with heap := s.heap.update I (Obj.mapFields (·.setIfInBounds 1 (rawInt ((i : Int) + 1)))) }) ⟨_, hI', rfl⟩ ?_)
  show wpAny _ _ (pure es[i].key) _ _ _
  rw [he]
  exact wpAny_pure (wpAny_pure ⟨_, rfl, wpAny_pure (h _ _ hI' (Heap.SameBut.update ..))⟩)

theorem keyIter_end {Q : Option Value → Shared → Prop} (hh : A.handled = none) (hI : s.heap.get? I = some (keyIterO d m.length m.length ep)) (hm : DT s.heap d c sl ep m)
    (h : ∀ h', Heap.ExtBut I s.heap h' → Q none { s with heap := h' }) : wpAny (model prog w) A (pyNext (.ref I)) Q E s := by
  obtain ⟨es, ho, hc, hE, hn, ha⟩ := id hm
  have hT : s.TypeIs (.ref I) "dict_keyiterator" := ⟨_, hI, rfl⟩
  unfold pyNext
  refine wpAny_bind (wpAny_attempt (wpAny_callSpecial?_slot (name := Str.ofString "__next__") hT F.slot_dict_keyiterator_next
    (wpAny_call_entry F.slot_dict_keyiterator_next hT F.entry_dict_keyiterator_next ?_ (F.args_dict_keyiterator_next_1 _))))
  refine wpAny_bind (wpAny_pure ?_)
  refine wpAny_bind ?_
  refine wpAny_bind ?_
  first | refine wpAny_bind (wpAny_typeNameOfWhole_keyiter hT (wpAny_pure ?_)) | refine wpAny_bind (wpAny_typeNameOf_keyiter hT (wpAny_pure ?_))
  refine wpAny_bind (wpAny_fieldsOf hI rfl ?_)
  have hown : Builtin.Dict_items.ownsTuple "dict_keyiterator" = false := by decide
  simp only [hown, Bool.false_eq_true, if_false]
  show wpAny _ _ (if (Value.ref d == Value.none) = true then _ else _) _ _ s
  rw [if_neg (show ¬ ((Value.ref d == Value.none) = true) from Bool.false_ne_true)]
  refine wpAny_bind (wpAny_pure ?_)
  refine wpAny_bind (wpAny_dictEntries ho rfl ?_)
  have hsz : es.size = m.length := by rw [← hE.length]; simp
  rw [if_neg (by rw [hsz]; simp)]
  refine wpAny_bind (wpAny_pure ?_)
  refine wpAny_bind (wpAny_dictEpoch ho rfl ?_)
  rw [if_neg (by simp)]
  refine wpAny_pure ?_
  have hge : es.size ≤ m.length := by rw [hsz]; exact Nat.le_refl _
  simp only [show ¬ ((m.length : Int) < 0) from by omega, if_false, Int.toNat_natCast, Array.getElem?_eq_none hge]
  refine wpAny_bind ?_
  first | refine wpAny_bind (wpAny_typeNameOfWhole_keyiter hT (wpAny_pure ?_)) | refine wpAny_bind (wpAny_typeNameOf_keyiter hT (wpAny_pure ?_))
  show wpAny _ _ (setField (.ref I) 0 .none >>= _) _ _ s
  refine wpAny_bind (wpAny_setField hI rfl (by simp) ?_)
  refine raise_stop (A := A.in1) (.inl hh) fun e h' k he => ?_
  obtain ⟨oe, he1, he2⟩ := he
  refine wpAny_bind (wpAny_isInstance (T := "StopIteration") (b := true) ⟨_, he1, he2⟩ isSubtype_stop ?_)
  exact wpAny_pure (h _ fun b o' hb e => k b o' ((Heap.SameBut.update ..).extBut b o' hb e))

theorem pyIter_keyiter {i n : Nat} {Q : Value → Shared → Prop} (hI : s.heap.get? I = some (keyIterO d i n ep)) (h : Q (.ref I) s) : wpAny (model prog w) A (pyIter (.ref I)) Q E s := by
  have hT : s.TypeIs (.ref I) "dict_keyiterator" := ⟨_, hI, rfl⟩
  refine wpAny_pyIter_slot hT F.slot_dict_keyiterator_iter (wpAny_call_entry F.slot_dict_keyiterator_iter hT F.entry_dict_keyiterator_iter ?_ (F.args_dict_keyiterator_iter_1 _))
  show wpAny _ _ (ret (.ref I)) _ _ s
  exact wpAny_pure ⟨_, rfl, "dict_keyiterator", _, hT, F.slot_dict_keyiterator_next.lookup, h⟩

/-- a table, walked: its keys -/
theorem dtWalks (hh : A.handled = none) (hne : d ≠ I) : Walks prog w A I [I, d] [I] m.length (fun i v => ∃ p t, m[i]? = some p ∧ v = .int p.1 t)
    (fun i h => h.get? I = some (keyIterO d i m.length ep) ∧ DT h d c sl ep m) where
  sub := fun b hb => by rw [List.mem_singleton] at hb; rw [hb]; exact .head _
  frame := fun i h h' st hk => ⟨hk I (.head _) _ st.1, let ⟨es, ho, r⟩ := st.2; ⟨es, hk d (.tail _ (.head _)) _ ho, r⟩⟩
  item := fun i s Q E hi st hQ => by
    have hx : m[i]? = some m[i] := List.getElem?_eq_getElem hi
    refine keyIter_next st.1 st.2 hx fun t h' hI' hs => ?_
    exact hQ _ h' s.toks ⟨_, t, hx, rfl⟩ ⟨hI', st.2.at (Upto.same hs (.head [])) (by simpa using hne)⟩ fun b o hb e => hs.extBut b o (fun q => hb (q ▸ List.mem_singleton.mpr rfl)) e
  done := fun s Q E st hQ => keyIter_end hh st.1 st.2 fun h' he => hQ h' s.toks fun b o hb e => he b o (fun q => hb (q ▸ List.mem_singleton.mpr rfl)) e
  self := fun i s Q E st hQ => pyIter_keyiter st.1 hQ
end
end Mine
end

section
open PySem PySem.W PySem.Calls PyProof.Rows
set_option Elab.async false
set_option maxRecDepth 100000
namespace Mine

/-- names bound in a frame (the earlier of two shadows the later) -/
def Loc (h : Heap) (L : Addr) (bs : List (Str × Value)) : Prop := ∃ m, h.Ns L m ∧ ∀ x v, bs.lookup x = some v → m x = some v
def Sub (bs : List (Str × Value)) : List (Str × Value) → Prop
  | [] => True
  | p :: r => bs.lookup p.1 = some p.2 ∧ Sub bs r
theorem Sub.get {bs : List (Str × Value)} : ∀ {r : List (Str × Value)}, Sub bs r → ∀ x v, r.lookup x = some v → bs.lookup x = some v
  | [], _, x, v, e => nomatch e
  | p :: r, h, x, v, e => by
    rw [List.lookup_cons] at e
    split at e
    · rename_i hx
      cases e
      have : x = p.1 := by simpa using hx
      rw [this]; exact h.1
    · exact Sub.get h.2 x v e
theorem Loc.pick {h : Heap} {L : Addr} {bs r : List (Str × Value)} (l : Loc h L bs) (s : Sub bs r) : Loc h L r := let ⟨m, n, f⟩ := l; ⟨m, n, fun x v e => f x v (s.get x v e)⟩
theorem Loc.at {h h' : Heap} {L : Addr} {bs : List (Str × Value)} {xs : List Addr} (l : Loc h L bs) (u : Upto xs h h') (hL : L ∉ xs) : Loc h' L bs :=
  let ⟨m, ⟨o, es, ep, ho, r⟩, f⟩ := l; ⟨m, ⟨o, es, ep, u.at ho hL, r⟩, f⟩
theorem Loc.get {h : Heap} {L : Addr} {bs : List (Str × Value)} (l : Loc h L bs) : ∃ o es ep, h.get? L = some o ∧ o.data = .dict es ep := let ⟨_, ⟨o, es, ep, ho, hd, _⟩, _⟩ := l; ⟨o, es, ep, ho, hd⟩
theorem data_ne {h : Heap} {a b : Addr} {o o' : Obj} (x : h.get? a = some o) (y : h.get? b = some o') (ne : o.data ≠ o'.data) : a ≠ b := by
  rintro rfl
  rw [x] at y
  cases y
  exact ne rfl

section
variable {M : Model} {A : Around} {E : Value → Shared → Prop} {s : Shared} {env : Env} {bs : List (Str × Value)}
theorem ldL {x : Str} {pos : Pos} {v : Value} {Q : Value → Shared → Prop} (l : Loc s.heap env.locals bs) (hv : bs.lookup x = some v) (h : Q v s)
    (hk : env.scope.kind = .function := by rfl) (hl : env.kindOf x = some .local := by rfl) (hd : (x == ("__debug__" : Str)) = false := by decide) :
    wpAny M A (eval (.Name x pos) env) Q E s := by
  obtain ⟨m, n, f⟩ := l
  exact wpAny_Name (wpAny_loadName_local hk hl n (f x v hv) h) hd
theorem stL {x : Str} {v : Value} {Q : Unit → Shared → Prop} (l : Loc s.heap env.locals bs)
    (h : ∀ h', Loc h' env.locals ((x, v) :: bs) → Heap.SameBut env.locals s.heap h' → Q () { s with heap := h', toks := s.toks + 1 })
    (hl : env.kindOf x = some .local := by rfl) (hp : (env.scope.kind == .class || (env.scope.kind == .module && env.locals != env.globals)) = false := by rfl) :
    wpAny M A (storeName env x v) Q E s := by
  obtain ⟨m, n, f⟩ := l
  refine wpAny_storeName_local hl n (fun h' hn hs => h h' ⟨_, hn, fun y u e => ?_⟩ hs) hp
  rw [List.lookup_cons] at e
  split at e
  · rename_i hx
    rw [if_pos (by simpa using hx)]
    exact e
  · rename_i hx
    rw [if_neg (by simpa using hx)]
    exact f y u e
end

/-- what stands from the program's own start -/
def Base (K : Frag) (h : Heap) : Prop := K.In h ∧ ∃ p loose mg mb, TopRead p loose mg mb h
theorem Base.keeps {K : Frag} {h h' : Heap} (b : Base K h) (k : ∀ b o, h.get? b = some o → h'.get? b = some o) : Base K h' :=
  ⟨b.1.keeps k, let ⟨p, l, mg, mb, t⟩ := b.2; ⟨p, l, mg, mb, t.keeps k⟩⟩
theorem Base.nolimit {K : Frag} {h : Heap} (b : Base K h) : h.NoLimit := let ⟨_, _, _, _, t⟩ := b.2; t.nolimit

section
variable {M : Model} {A : Around} {E : Value → Shared → Prop} {s : Shared} {env : Env} {K : Frag}
theorem ldG {x : Str} {pos : Pos} {v : Value} {Q : Value → Shared → Prop} (b : Base K s.heap) (e : nsIn K mainGlobals x = some (some v)) (h : Q v s)
    (hk : env.scope.kind = .function := by rfl) (hl : env.kindOf x = some .globalImplicit := by rfl) (hg : env.globals = mainGlobals := by rfl) (hd : (x == ("__debug__" : Str)) = false := by decide) :
    wpAny M A (eval (.Name x pos) env) Q E s := by
  obtain ⟨X, p, l, mg, mb, T⟩ := b
  exact Name_function_global hk hl (loadGlobal_global (hg ▸ T.g) (mg_of X T.g e) h) hd
theorem ldB {x : Str} {pos : Pos} {v : Value} {Q : Value → Shared → Prop} (b : Base K s.heap) (e : nsIn K mainGlobals x = some none) (hv : bootBuiltins x = some v) (hn : x ≠ "__name__") (h : Q v s)
    (hk : env.scope.kind = .function := by rfl) (hl : env.kindOf x = some .globalImplicit := by rfl) (hg : env.globals = mainGlobals := by rfl) (hb : env.builtins = builtinsNs := by rfl) (hd : (x == ("__debug__" : Str)) = false := by decide) :
    wpAny M A (eval (.Name x pos) env) Q E s := by
  obtain ⟨X, p, l, mg, mb, T⟩ := b
  exact Name_function_global hk hl (loadGlobal_builtin (hg ▸ T.g) (mg_none_of X T.g e) (hb ▸ T.b) ((T.builtins x hn).trans hv) h) hd
end

section
variable {prog : Program} {w : World} {A : Around} {s : Shared} {env : Env} {I : Addr} {fp wr : List Addr} {n : Nat} {P : Nat → Value → Prop} {St : Nat → Heap → Prop}

/-- for .. in .. over a walk -/
theorem for_walk {R : Result → Shared → Prop} {target : Expr} {body orelse : List Stmt} (W : Walks prog w A I fp wr n P St) {J : Nat → Heap → Prop}
    (hs : St 0 s.heap) (h0 : J 0 s.heap) (hw : ∀ i h h', J i h → Upto wr h h' → J i h')
    (turn : ∀ i v (h1 : Heap) (tk1 : Nat), i < n → P i v → St (i + 1) h1 → J i h1 →
      wpAny (model prog w) A (letOwnedTupleGo target (.ref I) v) (fun _ s1 => wpAny (model prog w) A (assign target env v) (fun _ s2 => wpAny (model prog w) A (execs body env) (fun f s3 => match f with
        | .next | .cont => ∃ h3 tk3, s3 = { s with heap := h3, toks := tk3 } ∧ J (i + 1) h3 ∧ ∀ b ∈ fp, ∀ o, h1.get? b = some o → h3.get? b = some o
        | .brk => R (.ok .next) s3
        | .ret v => R (.ok (.ret v)) s3) (notedBy (model prog w) A env fun e s' => R (.error e) s') s2) (notedBy (model prog w) A env fun e s' => R (.error e) s') s1) (notedBy (model prog w) A env fun e s' => R (.error e) s') { s with heap := h1, toks := tk1 })
    (done : ∀ h' tk, J n h' → wpAny (model prog w) A (execs orelse env) (fun f s3 => R (.ok f) s3) (notedBy (model prog w) A env fun e s' => R (.error e) s') { s with heap := h', toks := tk }) :
    codeAny (model prog w) A (.forLoop target (.ref I) body orelse env) R s := by
  refine codeAny_forLoop_any (fun k s' => ∃ h' tk i, s' = { s with heap := h', toks := tk } ∧ St i h' ∧ J i h' ∧ i ≤ n ∧ k = n + 1 - i) ?_ (n + 1) ⟨s.heap, s.toks, 0, rfl, hs, h0, Nat.zero_le _, rfl⟩
  rintro k s' ⟨h', tk, i, rfl, hst, hJ, hi, rfl⟩
  by_cases hlt : i < n
  · refine W.item i _ _ _ hlt hst fun v h1 tk1 hP hst1 hk1 => ?_
    refine wpAny_mono (turn i v h1 tk1 hlt hP hst1 (hw _ _ _ hJ hk1)) (fun _ s1 q => wpAny_mono q (fun _ s2 q => wpAny_mono q (fun f s3 q => ?_) fun _ _ e => e) fun _ _ e => e) fun _ _ e => e
    cases f with
    | next => obtain ⟨h3, tk3, rfl, hJ3, hk3⟩ := q; exact ⟨n + 1 - (i + 1), by omega, h3, tk3, i + 1, rfl, W.frame _ _ _ hst1 hk3, hJ3, hlt, rfl⟩
    | cont => obtain ⟨h3, tk3, rfl, hJ3, hk3⟩ := q; exact ⟨n + 1 - (i + 1), by omega, h3, tk3, i + 1, rfl, W.frame _ _ _ hst1 hk3, hJ3, hlt, rfl⟩
    | brk => exact q
    | ret v => exact q
  · have : i = n := by omega
    subst this
    exact W.done _ _ _ hst fun h1 tk1 hk1 => done h1 tk1 (hw _ _ _ hJ hk1)

theorem letOwn_name {x : Str} {pos : Pos} {v : Value} {Q : Unit → Shared → Prop} {E : Value → Shared → Prop} (h : Q () s) : wpAny (model prog w) A (letOwnedTupleGo (.Name x pos) (.ref I) v) Q E s := wpAny_pure h
theorem letOwn_pair {elts : List Expr} {x1} {pos : Pos} {r : Addr} {T : String} {Q : Unit → Shared → Prop} {E : Value → Shared → Prop} {o : Obj} (ho : s.heap.get? I = some o) (hc : o.cls = .type T)
    (hT : (["enumerate", "zip", "dict_itemiterator", "dict_reverseitemiterator", "odict_iterator", "itertools.zip_longest", "itertools.pairwise"].contains T) = false) (h : Q () s) :
    wpAny (model prog w) A (letOwnedTupleGo (.Tuple elts x1 pos) (.ref I) (.ref r)) Q E s := by
  unfold letOwnedTupleGo
  refine wpAny_bind (wpAny_load ho ?_)
  rw [hc]
  cases o.data with
  | fields vs =>
    show wpAny _ A (if (["enumerate", "zip", "dict_itemiterator", "dict_reverseitemiterator", "odict_iterator", "itertools.zip_longest", "itertools.pairwise"].contains T && vs[0]? == some (rawInt r)) = true then _ else _) Q E s
    rw [hT, Bool.false_and, if_neg Bool.false_ne_true]
    exact wpAny_pure h
  | _ => exact wpAny_pure h
end
end Mine
end

section
open PySem PySem.W PySem.Calls PyProof.Rows
set_option Elab.async false
set_option maxRecDepth 100000
namespace Mine

inductive IsComp : Expr → List Comprehension → (Value → Env → Sem Unit) → Prop
  | list (elt : Expr) (gens : List Comprehension) (sc : Scope) (pos : Pos) : IsComp (.ListComp elt gens sc pos) gens (fun acc env => eval elt env >>= fun x => call (.builtin "list.append") [acc, x] >>= fun _ => pure ())
  | set (elt : Expr) (gens : List Comprehension) (sc : Scope) (pos : Pos) : IsComp (.SetComp elt gens sc pos) gens (fun acc env => eval elt env >>= fun x => standAt elt.pos >>= fun _ => call (.builtin "set.add") [acc, x] >>= fun _ => pure ())

def ifsTree (ifs : List Expr) (env : Env) : Sem Bool := forIn ifs true fun c r => if r = true then do let ok ← isTrue c env (eval c env); pure (ForInStep.yield ok) else pure (ForInStep.yield r)

section
variable {prog : Program} {w : World} {A : Around} {E : Value → Shared → Prop} {s : Shared} {env : Env} {I : Addr} {fp wr : List Addr} {n : Nat} {P : Nat → Value → Prop} {St : Nat → Heap → Prop}
  {R : Result → Shared → Prop} {e : Expr} {gens : List Comprehension} {emit : Value → Env → Sem Unit} {depth : Nat} {it acc : Value} {target iter : Expr} {ifs : List Expr}

theorem comp_turn_last {Q : Fin → Shared → Prop} (hc : IsComp e gens emit) (hg : gens[depth]? = some ⟨target, iter, ifs, 0⟩) (hl : gens[depth + 1]? = none)
    (h : wpAny (model prog w) A (pyNext it) (fun r s1 => match r with
      | none => Q (.done .next) s1
      | some v => wpAny (model prog w) A (letOwnedTupleGo target it v) (fun _ s2 => wpAny (model prog w) A (assign target env v) (fun _ s3 => wpAny (model prog w) A (ifsTree ifs env) (fun ok s4 =>
          if ok then wpAny (model prog w) A (emit acc env) (fun _ s5 => Q (.again (.compLoop e depth it acc env)) s5) E s4 else Q (.again (.compLoop e depth it acc env)) s4) E s3) E s2) E s1) E s) :
    wpAny (model prog w) A (compTurn e depth it acc env) Q E s := by
  cases hc with
  | list elt _ sc pos =>
    unfold compTurn
    simp only [hg]
    refine wpAny_bind (wpAny_standAt (wpAny_bind (wpAny_mono h (fun r s1 q => ?_) fun _ _ e => e)))
    cases r with
    | none => exact wpAny_pure q
    | some v =>
      refine wpAny_bind (wpAny_mono q (fun _ s2 q => wpAny_bind (wpAny_mono q (fun _ s3 q => wpAny_bind (wpAny_mono q (fun ok s4 q => ?_) fun _ _ e => e)) fun _ _ e => e)) fun _ _ e => e)
      cases ok with
      | false => exact wpAny_pure q
      | true =>
        simp only [hl, ↓reduceIte] at q ⊢
        refine wpAny_bind (wpAny_mono q (fun _ s5 q => wpAny_pure q) fun _ _ e => e)
  | set elt _ sc pos =>
    unfold compTurn
    simp only [hg]
    refine wpAny_bind (wpAny_standAt (wpAny_bind (wpAny_mono h (fun r s1 q => ?_) fun _ _ e => e)))
    cases r with
    | none => exact wpAny_pure q
    | some v =>
      refine wpAny_bind (wpAny_mono q (fun _ s2 q => wpAny_bind (wpAny_mono q (fun _ s3 q => wpAny_bind (wpAny_mono q (fun ok s4 q => ?_) fun _ _ e => e)) fun _ _ e => e)) fun _ _ e => e)
      cases ok with
      | false => exact wpAny_pure q
      | true =>
        simp only [hl, ↓reduceIte] at q ⊢
        refine wpAny_bind (wpAny_mono q (fun _ s5 q => wpAny_pure q) fun _ _ e => e)

theorem comp_turn_mid {Q : Fin → Shared → Prop} {target' iter' : Expr} {ifs' : List Expr} (hc : IsComp e gens emit) (hg : gens[depth]? = some ⟨target, iter, [], 0⟩) (hl : gens[depth + 1]? = some ⟨target', iter', ifs', 0⟩)
    (hs : ∀ x, foldedSetIterable iter' env x = pure x)
    (h : wpAny (model prog w) A (pyNext it) (fun r s1 => match r with
      | none => Q (.done .next) s1
      | some v => wpAny (model prog w) A (letOwnedTupleGo target it v) (fun _ s2 => wpAny (model prog w) A (assign target env v) (fun _ s3 => 
          wpAny (model prog w) A (eval iter' env) (fun x s4 => wpAny (model prog w) A (pyIter x) (fun it' s5 =>
            wpAny (model prog w) A (runOwn (.compStart e (depth + 1) it' acc env) env) (fun _ s6 => Q (.again (.compLoop e depth it acc env)) s6) E s5) E s4) E s3) E s2) E s1) E s) :
    wpAny (model prog w) A (compTurn e depth it acc env) Q E s := by
  cases hc with
  | list elt _ sc pos =>
    unfold compTurn
    simp only [hg]
    refine wpAny_bind (wpAny_standAt (wpAny_bind (wpAny_mono h (fun r s1 q => ?_) fun _ _ e => e)))
    cases r with
    | none => exact wpAny_pure q
    | some v =>
      refine wpAny_bind (wpAny_mono q (fun _ s2 q => wpAny_bind (wpAny_mono q (fun _ s3 q => wpAny_bind (wpAny_pure ?_)) fun _ _ e => e)) fun _ _ e => e)
      simp only [hl, ↓reduceIte]
      refine wpAny_bind (wpAny_mono q (fun x s4 q => wpAny_bind (wpAny_standAt (wpAny_bind (wpAny_of_eq (hs x) (wpAny_bind (wpAny_holding (wpAny_mono q (fun it' s5 q => wpAny_bind (wpAny_mono q (fun _ s6 q => wpAny_pure q) fun _ _ e => e)) fun _ _ e => e))))))) fun _ _ e => e)
  | set elt _ sc pos =>
    unfold compTurn
    simp only [hg]
    refine wpAny_bind (wpAny_standAt (wpAny_bind (wpAny_mono h (fun r s1 q => ?_) fun _ _ e => e)))
    cases r with
    | none => exact wpAny_pure q
    | some v =>
      refine wpAny_bind (wpAny_mono q (fun _ s2 q => wpAny_bind (wpAny_mono q (fun _ s3 q => wpAny_bind (wpAny_pure ?_)) fun _ _ e => e)) fun _ _ e => e)
      simp only [hl, ↓reduceIte]
      refine wpAny_bind (wpAny_mono q (fun x s4 q => wpAny_bind (wpAny_standAt (wpAny_bind (wpAny_of_eq (hs x) (wpAny_bind (wpAny_holding (wpAny_mono q (fun it' s5 q => wpAny_bind (wpAny_mono q (fun _ s6 q => wpAny_pure q) fun _ _ e => e)) fun _ _ e => e))))))) fun _ _ e => e)
end
end Mine
end

section
open PySem PySem.W PySem.Calls PyProof.Rows
set_option Elab.async false
set_option maxRecDepth 100000
namespace Mine
section
variable {prog : Program} {w : World} {A : Around} {E : Value → Shared → Prop} {s : Shared} {env : Env} {I : Addr} {fp wr : List Addr} {n : Nat} {P : Nat → Value → Prop} {St : Nat → Heap → Prop}
  {R : Result → Shared → Prop} {e : Expr} {gens : List Comprehension} {emit : Value → Env → Sem Unit} {depth : Nat} {it acc : Value} {target iter : Expr} {ifs : List Expr}

theorem comp_start (hc : IsComp e gens emit) (hg : gens[depth]? = some ⟨target, iter, ifs, 0⟩) 
    (h0 : codeAny (model prog w) A (.compLoop e depth it acc env) R s)
    (h : wpAny (model prog w) A (pyIter it) (fun it' s' => codeAny (model prog w) A (.compLoop e depth it' acc env) R s') (notedBy (model prog w) A env fun x s' => R (.error x) s') s) :
    codeAny (model prog w) A (.compStart e depth it acc env) R s := by
  have hcl : clausesOf e = gens := by cases hc <;> rfl
  refine codeAny_of_tree ?_
  have den : (model prog w).den (.compStart e depth it acc env) = (compStart e depth it acc env).onRaise (fun x => do noteFrame x env; standAt theWindowsPlace) := by cases hc <;> rfl
  rw [den]
  have hund : A.under (.compStart e depth it acc env) = A := by cases hc <;> rfl
  rw [hund]
  refine wpAny_notedAt ?_
  unfold compStart
  rw [hcl, hg]
  show wpAny _ _ (ask >>= _) _ _ s
  refine wpAny_bind (wpAny_askSetting (wpAny_ite ?_))
  have hq : ∀ i, (Code.compLoop e depth i acc env).quiet = true := by intro i; cases hc <;> rfl
  split
  · first
      | exact wpAny_bind (wpAny_pure (wpAny_pure (And.intro (hq _) h0)))
      | exact wpAny_pure (And.intro (hq _) h0)
  · first
      | exact wpAny_bind (wpAny_rule (wpAny_bind (wpAny_standAt (wpAny_bind (wpAny_mono h (fun it' s' h' => wpAny_pure (And.intro (hq _) h')) fun _ _ x => x)))))
      | (refine wpAny_bind (wpAny_rule ?_); show wpAny _ _ (standAt iter.pos >>= _) _ _ s; exact wpAny_bind (wpAny_standAt (wpAny_bind (wpAny_mono h (fun it' s' h' => wpAny_pure (And.intro (hq _) h')) fun _ _ x => x))))

theorem comp_loop (hc : IsComp e gens emit) (W : Walks prog w A I fp wr n P St) {J : Nat → Heap → Prop} (hs : St 0 s.heap) (h0 : J 0 s.heap) (hw : ∀ i h h', J i h → Upto wr h h' → J i h')
    (shape : ∀ (Q : Fin → Shared → Prop) (E : Value → Shared → Prop) (s : Shared), wpAny (model prog w) A (pyNext (.ref I)) (fun r s1 => match r with
      | none => Q (.done .next) s1
      | some v => wpAny (model prog w) A (letOwnedTupleGo target (.ref I) v) (fun _ s2 => wpAny (model prog w) A (assign target env v) (fun _ s3 => wpAny (model prog w) A (ifsTree ifs env) (fun ok s4 =>
          if ok then wpAny (model prog w) A (emit acc env) (fun _ s5 => Q (.again (.compLoop e depth (.ref I) acc env)) s5) E s4 else Q (.again (.compLoop e depth (.ref I) acc env)) s4) E s3) E s2) E s1) E s →
        wpAny (model prog w) A (compTurn e depth (.ref I) acc env) Q E s)
    (turn : ∀ i v (h1 : Heap) (tk1 : Nat), i < n → P i v → St (i + 1) h1 → J i h1 →
      wpAny (model prog w) A (letOwnedTupleGo target (.ref I) v) (fun _ s2 => wpAny (model prog w) A (assign target env v) (fun _ s3 => wpAny (model prog w) A (ifsTree ifs env) (fun ok s4 =>
          if ok then wpAny (model prog w) A (emit acc env) (fun _ s5 => ∃ h3 tk3, s5 = { s with heap := h3, toks := tk3 } ∧ J (i + 1) h3 ∧ ∀ b ∈ fp, ∀ o, h1.get? b = some o → h3.get? b = some o) (notedBy (model prog w) A env fun e s' => R (.error e) s') s4
          else ∃ h3 tk3, s4 = { s with heap := h3, toks := tk3 } ∧ J (i + 1) h3 ∧ ∀ b ∈ fp, ∀ o, h1.get? b = some o → h3.get? b = some o)
          (notedBy (model prog w) A env fun e s' => R (.error e) s') s3) (notedBy (model prog w) A env fun e s' => R (.error e) s') s2) (notedBy (model prog w) A env fun e s' => R (.error e) s') { s with heap := h1, toks := tk1 })
    (done : ∀ h' tk, J n h' → R (.ok .next) { s with heap := h', toks := tk }) :
    codeAny (model prog w) A (.compLoop e depth (.ref I) acc env) R s := by
  have hq : (Code.compLoop e depth (.ref I) acc env).quiet = true := by cases hc <;> rfl
  refine codeAny_loop hq (fun k s' => ∃ h' tk i, s' = { s with heap := h', toks := tk } ∧ St i h' ∧ J i h' ∧ i ≤ n ∧ k = n + 1 - i) ?_ (n + 1) ⟨s.heap, s.toks, 0, rfl, hs, h0, Nat.zero_le _, rfl⟩
  rintro k s' ⟨h', tk, i, rfl, hst, hJ, hi, rfl⟩
  have den : (model prog w).den (.compLoop e depth (.ref I) acc env) = (compTurn e depth (.ref I) acc env).onRaise (fun x => do noteFrame x env; theTreesLotGoes x) := by cases hc <;> rfl
  rw [den]
  have hund : A.under (.compLoop e depth (.ref I) acc env) = A := by cases hc <;> rfl
  rw [hund]
  refine wpAny_noted (shape _ _ _ ?_)
  by_cases hlt : i < n
  · refine W.item i _ _ _ hlt hst fun v h1 tk1 hP hst1 hk1 => ?_
    refine wpAny_mono (turn i v h1 tk1 hlt hP hst1 (hw _ _ _ hJ hk1)) (fun _ s1 q => wpAny_mono q (fun _ s2 q => wpAny_mono q (fun ok s3 q => ?_) fun _ _ e => e) fun _ _ e => e) fun _ _ e => e
    have fin : ∀ s5, (∃ h3 tk3, s5 = { s with heap := h3, toks := tk3 } ∧ J (i + 1) h3 ∧ ∀ b ∈ fp, ∀ o, h1.get? b = some o → h3.get? b = some o) →
        Code.compLoop e depth (.ref I) acc env = .compLoop e depth (.ref I) acc env ∧ ∃ m, m < n + 1 - i ∧ ∃ h' tk i', s5 = { s with heap := h', toks := tk } ∧ St i' h' ∧ J i' h' ∧ i' ≤ n ∧ m = n + 1 - i' := by
      rintro s5 ⟨h3, tk3, rfl, hJ3, hk3⟩
      exact ⟨rfl, n + 1 - (i + 1), by omega, h3, tk3, i + 1, rfl, W.frame _ _ _ hst1 hk3, hJ3, hlt, rfl⟩
    cases ok with
    | false => exact fin _ q
    | true =>
      simp only [↓reduceIte] at q ⊢
      exact wpAny_mono q (fun _ s5 q => ⟨trivial, (fin _ q).2⟩) fun _ _ e => e
  · have : i = n := by omega
    subst this
    exact W.done _ _ _ hst fun h1 tk1 hk1 => done h1 tk1 (hw _ _ _ hJ hk1)

theorem comp_loop_mid (hc : IsComp e gens emit) {target' iter' : Expr} {ifs' : List Expr} (hg : gens[depth]? = some ⟨target, iter, [], 0⟩) (hl : gens[depth + 1]? = some ⟨target', iter', ifs', 0⟩)
    (hsf : ∀ x, foldedSetIterable iter' env x = pure x)
    (W : Walks prog w A I fp wr n P St) {J : Nat → Heap → Prop} (hs : St 0 s.heap) (h0 : J 0 s.heap) (hw : ∀ i h h', J i h → Upto wr h h' → J i h')
    (turn : ∀ i v (h1 : Heap) (tk1 : Nat), i < n → P i v → St (i + 1) h1 → J i h1 →
      wpAny (model prog w) A (letOwnedTupleGo target (.ref I) v) (fun _ s2 => wpAny (model prog w) A (assign target env v) (fun _ s3 => 
          wpAny (model prog w) A (eval iter' env) (fun x s4 => wpAny (model prog w) A (pyIter x) (fun it' s5 =>
            wpAny (model prog w) A (runOwn (.compStart e (depth + 1) it' acc env) env) (fun _ s6 => ∃ h3 tk3, s6 = { s with heap := h3, toks := tk3 } ∧ J (i + 1) h3 ∧ ∀ b ∈ fp, ∀ o, h1.get? b = some o → h3.get? b = some o)
             (notedBy (model prog w) A env fun e s' => R (.error e) s') s5) (notedBy (model prog w) A env fun e s' => R (.error e) s') s4)
          (notedBy (model prog w) A env fun e s' => R (.error e) s') s3) (notedBy (model prog w) A env fun e s' => R (.error e) s') s2) (notedBy (model prog w) A env fun e s' => R (.error e) s') { s with heap := h1, toks := tk1 })
    (done : ∀ h' tk, J n h' → R (.ok .next) { s with heap := h', toks := tk }) :
    codeAny (model prog w) A (.compLoop e depth (.ref I) acc env) R s := by
  have hq : (Code.compLoop e depth (.ref I) acc env).quiet = true := by cases hc <;> rfl
  refine codeAny_loop hq (fun k s' => ∃ h' tk i, s' = { s with heap := h', toks := tk } ∧ St i h' ∧ J i h' ∧ i ≤ n ∧ k = n + 1 - i) ?_ (n + 1) ⟨s.heap, s.toks, 0, rfl, hs, h0, Nat.zero_le _, rfl⟩
  rintro k s' ⟨h', tk, i, rfl, hst, hJ, hi, rfl⟩
  have den : (model prog w).den (.compLoop e depth (.ref I) acc env) = (compTurn e depth (.ref I) acc env).onRaise (fun x => do noteFrame x env; theTreesLotGoes x) := by cases hc <;> rfl
  rw [den]
  have hund : A.under (.compLoop e depth (.ref I) acc env) = A := by cases hc <;> rfl
  rw [hund]
  refine wpAny_noted (comp_turn_mid hc hg hl hsf ?_)
  by_cases hlt : i < n
  · refine W.item i _ _ _ hlt hst fun v h1 tk1 hP hst1 hk1 => ?_
    refine wpAny_mono (turn i v h1 tk1 hlt hP hst1 (hw _ _ _ hJ hk1)) (fun _ s1 q => wpAny_mono q (fun _ s2 q => wpAny_mono q (fun x s3 q => wpAny_mono q (fun it' s4 q => wpAny_mono q (fun _ s5 q => ?_) fun _ _ e => e) fun _ _ e => e) fun _ _ e => e) fun _ _ e => e) fun _ _ e => e
    obtain ⟨h3, tk3, rfl, hJ3, hk3⟩ := q
    exact ⟨rfl, n + 1 - (i + 1), by omega, h3, tk3, i + 1, rfl, W.frame _ _ _ hst1 hk3, hJ3, hlt, rfl⟩
  · have : i = n := by omega
    subst this
    exact W.done _ _ _ hst fun h1 tk1 hk1 => done h1 tk1 (hw _ _ _ hJ hk1)

/-- a comprehension's frame -/
theorem comp_env {scope : Scope} {cl : List (Str × Addr)} {Q : Env → Shared → Prop} (hcell : ∀ y ∈ scope.names, y.2 ≠ .cell) (hkind : scope.kind = .function)
    (h : ∀ h' tk, Upto [] s.heap h' → Loc h' s.heap.objs.size [] → Q { compEnvC scope cl s.heap.objs.size env with scope := scope } { s with heap := h', toks := tk }) :
    wpAny (model prog w) A (newFunctionEnv scope env.globals cl [] env.qual none .none (some env)) Q E s := by
  refine wpAny_newFunctionEnv hcell (by intro y hy; simp at hy) (fun h' hns hsb => ?_) hkind
  exact h h' _ (fun b o _ e => hsb.extBut b o (ne_size e) (Heap.get?_push_of_some _ e)) ⟨_, hns, fun x v e => nomatch e⟩
end
end Mine
end

section
open PySem PySem.W PySem.Calls PyProof.Rows
set_option Elab.async false
set_option maxRecDepth 100000
namespace Mine

theorem Upto.write {xs ws : List Addr} {h0 h h' : Heap} (u : Upto xs h0 h) (v : Upto ws h h') (k : ∀ b, b ∈ ws → h0.get? b = none ∨ b ∈ xs) : Upto xs h0 h' := fun b o hb e =>
  v b o (fun q => (k b q).elim (fun z => by rw [z] at e; cases e) hb) (u b o hb e)
theorem Upto.none_size {h h' : Heap} {xs : List Addr} (u : Upto xs h h') (hx : ∀ b, b ∈ xs → ∃ o, h'.get? b = some o) : h.get? h'.objs.size = none := by
  cases e : h.get? h'.objs.size with
  | none => rfl
  | some o =>
    by_cases hb : h'.objs.size ∈ xs
    · obtain ⟨o', e'⟩ := hx _ hb
      rw [get_none_size] at e'; cases e'
    · have := u _ o hb e
      rw [get_none_size] at this; cases this
theorem ne_of_none {h : Heap} {a b : Addr} {o : Obj} (x : h.get? a = some o) (y : h.get? b = none) : a ≠ b := by
  rintro rfl
  rw [x] at y
  cases y

theorem PSet.at {w : World} {G : Addr → Prop} {h h' : Heap} {a : Addr} {l : List (Int × Int)} {xs : List Addr} (x : PSet w G h a l) (u : Upto xs h h') (ha : a ∉ xs) (hG : ∀ b, b ∈ xs → ¬ G b) : PSet w G h' a l := by
  obtain ⟨es, ep, t, ho, O⟩ := x
  exact ⟨es, ep, t, u.at ho ha, { O with ents := O.ents.at fun r p tp g => ⟨tp.at u (fun q => hG r q g), g⟩ }⟩
theorem PSet.weak {w : World} {G G' : Addr → Prop} {h : Heap} {a : Addr} {l : List (Int × Int)} (x : PSet w G h a l) (k : ∀ r p, TupAt h r p → G r → G' r) : PSet w G' h a l := by
  obtain ⟨es, ep, t, ho, O⟩ := x
  exact ⟨es, ep, t, ho, { O with ents := O.ents.at fun r p tp g => ⟨tp, k r p tp g⟩ }⟩
theorem TupAt.get {h : Heap} {r : Addr} {p : Int × Int} (x : TupAt h r p) : ∃ o, h.get? r = some o ∧ o.cls = .type "tuple" := let ⟨o, _, _, _, ho, hc, _⟩ := x; ⟨o, ho, hc⟩
theorem PSet.nodup {w : World} {G : Addr → Prop} {h : Heap} {a : Addr} {l : List (Int × Int)} (H : PSet w G h a l) : l.Nodup := let ⟨_, _, _, _, O⟩ := H; O.nodup
theorem PSet.small {w : World} {G : Addr → Prop} {h : Heap} {a : Addr} {l : List (Int × Int)} (H : PSet w G h a l) : ∀ p, p ∈ l → Small p := let ⟨_, _, _, _, O⟩ := H; O.small
theorem nodup_take {α : Type} {l : List α} (hn : l.Nodup) {i : Nat} {x : α} (hx : l[i]? = some x) : x ∉ l.take i := by
  intro hm
  obtain ⟨j, hj, e⟩ := List.mem_iff_getElem.mp hm
  rw [List.length_take] at hj
  have hj' : j < i := by omega
  obtain ⟨hi, e2⟩ := List.getElem?_eq_some_iff.mp hx
  rw [List.getElem_take] at e
  exact List.pairwise_iff_getElem.mp hn j i (by omega) hi hj' (e.trans e2.symm)
theorem mem_take_succ {α : Type} {l : List α} {i : Nat} {x y : α} (hx : l[i]? = some x) : y ∈ l.take (i + 1) ↔ y ∈ l.take i ∨ y = x := by
  rw [List.take_add_one, hx]
  simp
theorem PSet.get {w : World} {G : Addr → Prop} {h : Heap} {a : Addr} {l : List (Int × Int)} (H : PSet w G h a l) : ∃ o, h.get? a = some o ∧ o.cls = .type "set" := let ⟨_, _, _, ho, _⟩ := H; ⟨_, ho, rfl⟩

section
variable {prog : Program} {w : World} {A : Around} {E : Value → Shared → Prop} {s : Shared} {env : Env}

theorem starEach1 {e : Expr} {pos : Pos} (hs : starEach [e] env = [(false, eval e env)]) : backTo pos (starEach [e] env) = [(false, eval e env)] := by rw [hs]; rfl

/-- (e1, e2) -/
theorem tuple2 {e1 e2 : Expr} {x1} {pos : Pos} {Q : Value → Shared → Prop}
    (h : wpAny (model prog w) A (eval e1 env) (fun v1 s1 => wpAny (model prog w) A (eval e2 env) (fun v2 s2 => Q (.ref s2.heap.objs.size) { s2 with heap := s2.heap.push { cls := .type "tuple", data := .seq #[v1, v2] } }) E s1) E s)
    (hs : starEach [e1, e2] env = [(false, eval e1 env), (false, eval e2 env)] := by rfl) : wpAny (model prog w) A (eval (.Tuple [e1, e2] x1 pos) env) Q E s := by
  refine wpAny_Tuple_spliced ?_
  rw [hs]
  show wpAny _ _ (spliced [(false, eval e1 env), (false, eval e2 env)]) _ _ _
  refine spliced_cons (wpAny_mono h (fun v1 s1 h1 => spliced_cons (wpAny_mono h1 (fun v2 s2 h2 => spliced_nil ⟨by rw [sizeLine_eq]; exact Nat.le_of_ble_eq_true rfl, h2⟩) fun _ _ e => e)) fun _ _ e => e)

/-- o.name(e), a method of a built-in type -/
theorem meth1 {o e : Expr} {name : Str} {apos pos : Pos} {Q : Value → Shared → Prop}
    (h : wpAny (model prog w) A (eval o env) (fun ov s1 => ∃ T id, PlainAttrs T ∧ Slot T name id ∧ typeOf (.builtin id) = pure (.type "method_descriptor") ∧ s1.TypeIs ov T ∧ (∀ a, ov = .ref a → ∃ ob, s1.heap.get? a = some ob ∧ ob.dict = none) ∧
      wpAny (model prog w) A (eval e env) (fun v s2 => wpAny (model prog w) A (call (.builtin id) [ov, v]) Q E s2) E s1) E s)
    (hbase : attributeBase o name env (eval o env) = eval o env := by rfl) (hline : (apos.endLine == pos.line) = true := by rfl) (hs : starEach [e] env = [(false, eval e env)] := by rfl) :
    wpAny (model prog w) A (eval (.Call (.Attribute o name apos) [e] [] pos) env) Q E s := by
  refine wpAny_Call_method1_late hbase hline (starEach1 hs) (wpAny_mono h (fun ov s1 h1 => ?_) fun _ _ e => e)
  obtain ⟨T, id, a, b, c, d, f, g⟩ := h1
  exact ⟨T, id, a, b, c, d, f, callWith_builtin rfl (evalArgs_plain (spliced_cons (wpAny_mono g (fun v s2 h2 => spliced_nil h2) fun _ _ e => e)))⟩
theorem meth0 {o : Expr} {name : Str} {apos pos : Pos} {Q : Value → Shared → Prop}
    (h : wpAny (model prog w) A (eval o env) (fun ov s1 => ∃ T id, PlainAttrs T ∧ Slot T name id ∧ typeOf (.builtin id) = pure (.type "method_descriptor") ∧ s1.TypeIs ov T ∧ (∀ a, ov = .ref a → ∃ ob, s1.heap.get? a = some ob ∧ ob.dict = none) ∧
      wpAny (model prog w) A (call (.builtin id) [ov]) Q E s1) E s)
    (hbase : attributeBase o name env (eval o env) = eval o env := by rfl) (hline : (apos.endLine == pos.line) = true := by rfl) :
    wpAny (model prog w) A (eval (.Call (.Attribute o name apos) [] [] pos) env) Q E s := by
  refine wpAny_Call_method0_late hbase hline (wpAny_mono h (fun ov s1 h1 => ?_) fun _ _ e => e)
  obtain ⟨T, id, a, b, c, d, f, g⟩ := h1
  exact ⟨T, id, a, b, c, d, f, callWith_builtin rfl (evalArgs_nil3 g)⟩

/-- T(e) and f(e) for what C makes -/
theorem callT1 {x : Str} {p pos : Pos} {e : Expr} {T : String} {Q : Value → Shared → Prop}
    (h : wpAny (model prog w) A (eval (.Name x p) env) (fun f s1 => f = .type T ∧ wpAny (model prog w) A (eval e env) (fun v s2 => wpAny (model prog w) A (call (.type T) [v]) Q E s2) E s1) E s)
    (hs : starEach [e] env = [(false, eval e env)] := by rfl) : wpAny (model prog w) A (eval (.Call (.Name x p) [e] [] pos) env) Q E s := by
  refine Call_Name1 (wpAny_mono h (fun f s1 h1 => ?_) fun _ _ e => e) hs
  obtain ⟨rfl, h1⟩ := h1
  exact PySem.callWith_type rfl (evalArgs_plain (spliced_cons (wpAny_mono h1 (fun v s2 h2 => spliced_nil h2) fun _ _ e => e)))
theorem callT0 {x : Str} {p pos : Pos} {T : String} {Q : Value → Shared → Prop}
    (h : wpAny (model prog w) A (eval (.Name x p) env) (fun f s1 => f = .type T ∧ wpAny (model prog w) A (call (.type T) []) Q E s1) E s) : wpAny (model prog w) A (eval (.Call (.Name x p) [] [] pos) env) Q E s := by
  refine Call_Name0 (wpAny_mono h (fun f s1 h1 => ?_) fun _ _ e => e)
  obtain ⟨rfl, h1⟩ := h1
  exact PySem.callWith_type rfl (evalArgs_nil3 h1)
theorem callF1 {x : Str} {p pos : Pos} {e : Expr} {id : String} {Q : Value → Shared → Prop}
    (h : wpAny (model prog w) A (eval (.Name x p) env) (fun f s1 => f = .builtin id ∧ wpAny (model prog w) A (eval e env) (fun v s2 => wpAny (model prog w) A (call (.builtin id) [v]) Q E s2) E s1) E s)
    (hs : starEach [e] env = [(false, eval e env)] := by rfl) : wpAny (model prog w) A (eval (.Call (.Name x p) [e] [] pos) env) Q E s := by
  refine Call_Name1 (wpAny_mono h (fun f s1 h1 => ?_) fun _ _ e => e) hs
  obtain ⟨rfl, h1⟩ := h1
  exact callWith_builtin rfl (evalArgs_plain (spliced_cons (wpAny_mono h1 (fun v s2 h2 => spliced_nil h2) fun _ _ e => e)))
theorem callF2 {x : Str} {p pos : Pos} {e1 e2 : Expr} {id : String} {Q : Value → Shared → Prop}
    (h : wpAny (model prog w) A (eval (.Name x p) env) (fun f s1 => f = .builtin id ∧ wpAny (model prog w) A (eval e1 env) (fun v1 s2 => wpAny (model prog w) A (eval e2 env) (fun v2 s3 => wpAny (model prog w) A (call (.builtin id) [v1, v2]) Q E s3) E s2) E s1) E s)
    (hs : starEach [e1, e2] env = [(false, eval e1 env), (false, eval e2 env)] := by rfl) : wpAny (model prog w) A (eval (.Call (.Name x p) [e1, e2] [] pos) env) Q E s := by
  refine Call_Name2 (wpAny_mono h (fun f s1 h1 => ?_) fun _ _ e => e) hs
  obtain ⟨rfl, h1⟩ := h1
  exact callWith_builtin rfl (evalArgs_plain (spliced_cons (wpAny_mono h1 (fun v1 s2 h2 => spliced_cons (wpAny_mono h2 (fun v2 s3 h3 => spliced_nil h3) fun _ _ e => e)) fun _ _ e => e)))

/-- f(..), f one of the program's own functions -/
theorem callU1 {x : Str} {p pos : Pos} {e : Expr} {a : Addr} {fd : FuncData} {Q : Value → Shared → Prop}
    (h : wpAny (model prog w) A (eval (.Name x p) env) (fun f s1 => f = .ref a ∧ wpAny (model prog w) A (eval e env) (fun v s2 => (∃ o, s2.heap.get? a = some o ∧ o.data = .func fd) ∧ wpAny (model prog w) A (call (.ref a) [v]) Q E s2) E s1) E s)
    (hs : starEach [e] env = [(false, eval e env)] := by rfl) : wpAny (model prog w) A (eval (.Call (.Name x p) [e] [] pos) env) Q E s := by
  refine Call_Name1 (wpAny_mono h (fun f s1 h1 => ?_) fun _ _ e => e) hs
  obtain ⟨rfl, h1⟩ := h1
  unfold callWith
  refine wpAny_bind (wpAny_holding (evalArgs_plain (spliced_cons (wpAny_mono h1 (fun v s2 h2 => spliced_nil ?_) fun _ _ e => e))))
  obtain ⟨⟨o, ho, hd⟩, hc⟩ := h2
  refine wpAny_bind (wpAny_standAt ?_)
  have tail : ∀ {t : Sem Value}, wpAny (model prog w) A t Q E s2 → wpAny (model prog w) A (t >>= fun r => holding [r] point >>= fun _ => pure r) Q E s2 :=
    fun ht => wpAny_bind (wpAny_mono ht (fun r s₂ hr => wpAny_bind (wpAny_holding (wpAny_point (wpAny_pure hr)))) fun _ _ x => x)
  refine wpAny_bind (m := keeperOf (.ref a)) ?_
  unfold keeperOf
  refine wpAny_bind (wpAny_load ho ?_)
  rw [hd]
  refine wpAny_pure ?_
  exact tail (by unfold callMarked; exact wpAny_keep hc)
theorem callU2 {x : Str} {p pos : Pos} {e1 e2 : Expr} {a : Addr} {fd : FuncData} {Q : Value → Shared → Prop}
    (h : wpAny (model prog w) A (eval (.Name x p) env) (fun f s1 => f = .ref a ∧ wpAny (model prog w) A (eval e1 env) (fun v1 s2 => wpAny (model prog w) A (eval e2 env) (fun v2 s3 => (∃ o, s3.heap.get? a = some o ∧ o.data = .func fd) ∧ wpAny (model prog w) A (call (.ref a) [v1, v2]) Q E s3) E s2) E s1) E s)
    (hs : starEach [e1, e2] env = [(false, eval e1 env), (false, eval e2 env)] := by rfl) : wpAny (model prog w) A (eval (.Call (.Name x p) [e1, e2] [] pos) env) Q E s := by
  refine Call_Name2 (wpAny_mono h (fun f s1 h1 => ?_) fun _ _ e => e) hs
  obtain ⟨rfl, h1⟩ := h1
  unfold callWith
  refine wpAny_bind (wpAny_holding (evalArgs_plain (spliced_cons (wpAny_mono h1 (fun v1 s2 h2 => spliced_cons (wpAny_mono h2 (fun v2 s3 h3 => spliced_nil ?_) fun _ _ e => e)) fun _ _ e => e))))
  obtain ⟨⟨o, ho, hd⟩, hc⟩ := h3
  refine wpAny_bind (wpAny_standAt ?_)
  have tail : ∀ {t : Sem Value}, wpAny (model prog w) A t Q E s3 → wpAny (model prog w) A (t >>= fun r => holding [r] point >>= fun _ => pure r) Q E s3 :=
    fun ht => wpAny_bind (wpAny_mono ht (fun r s₂ hr => wpAny_bind (wpAny_holding (wpAny_point (wpAny_pure hr)))) fun _ _ x => x)
  refine wpAny_bind (m := keeperOf (.ref a)) ?_
  unfold keeperOf
  refine wpAny_bind (wpAny_load ho ?_)
  rw [hd]
  refine wpAny_pure ?_
  exact tail (by unfold callMarked; exact wpAny_keep hc)

theorem Loc.of {h : Heap} {L : Addr} {m : Str → Option Value} {bs : List (Str × Value)} (n : h.Ns L m) (k : ∀ p ∈ bs, m p.1 = some p.2) : Loc h L bs := ⟨m, n, fun x v e => k (x, v) (mem_of_lookup e)⟩

/-- the frame of a call -/
@[reducible] def fnEnv (fd : FuncData) (L a : Addr) : Env := newEnv fd.scope L fd.globals (cellsFrom (L + 1) fd.scope.names []) (fd.qualname ++ ".<locals>.") (some a) fd.code none fd.builtins

theorem call_fn {K : Frag} {R : Result → Shared → Prop} {a : Addr} {o : Obj} {fd : FuncData} {body : List Stmt} {args : List Value} {binds : List (Str × Value)}
    (B : Base K s.heap) (ho : K.lookup a = some o) (hd : o.data = .func fd) (hcd : codeIn K fd.code fd.qualname = true) (hroom : A.depth < recursionLimit)
    (hbody : fd.body = .stmts body) (hbind : bindArgs fd ⟨args, []⟩ = pure binds) (hcl : fd.closure = [])
    (hkind : ∀ n, (binds.all fun x => (fd.scope.names.lookup x.1 == some .local) || ((fd.scope.names.lookup x.1 == some .cell) && ((cellsFrom n fd.scope.names []).lookup x.1).isSome)) = true)
    (h : ∀ h1 tk, Upto [] s.heap h1 → h1.Ns s.heap.objs.size (bindL (fnEnv fd s.heap.objs.size a).kindOf binds fun _ => none) →
      (∀ n c, (cellsFrom (s.heap.objs.size + 1) fd.scope.names []).lookup n = some c → h1.IsCell c (bindC (fnEnv fd s.heap.objs.size a).kindOf binds (fun _ => none) n)) →
      (∀ n c, (n, c) ∈ cellsFrom (s.heap.objs.size + 1) fd.scope.names [] → s.heap.objs.size < c) →
      wpAny (model prog w) (A.deeper (fnEnv fd s.heap.objs.size a)) (execs body (fnEnv fd s.heap.objs.size a)) (fun f s' => R (.ok (.ret (match f with | .ret v => v | _ => .none))) s') (fun _ _ => False)
        { s with heap := h1, toks := tk })
    (hco : fd.scope.isCoroutine = false := by rfl) (hgen : fd.scope.isGenerator = false := by rfl) (hk : fd.scope.kind = .function := by rfl) :
    codeAny (model prog w) A (.call (.ref a) ⟨args, []⟩) R s := by
  refine codeAny_call_function hroom (B.1 _ _ ho) hd hco hgen hbody (codeRec_of B.1 hcd) ?_
  rw [hbind, hcl]
  refine wpAny_pure (wpAny_newFunctionEnv_cells hk (fun x hx => ?_) fun env' he s' x => ?_)
  · have := List.all_eq_true.mp (hkind (s.heap.objs.size + 1)) x hx
    simp only [Bool.or_eq_true, Bool.and_eq_true, beq_iff_eq] at this
    exact this
  · subst he
    obtain ⟨h₁, tk, rfl, keep⟩ := x.done
    refine ⟨B.nolimit.keeps keep, codeAny_func ?_⟩
    exact wpAny_mono (h h₁ tk (fun b o _ e => keep b o e) x.toInCall.ns x.cell x.above) (fun _ _ q => q) fun _ _ q => q.elim
end
end Mine
end

section
open PySem PySem.W PySem.Calls PyProof.Rows
set_option Elab.async false
set_option maxRecDepth 100000
namespace Mine

section
variable {prog : Program} {w : World} {A : Around} {E : Value → Shared → Prop} {s : Shared} {env : Env}

theorem ldC {x : Str} {pos : Pos} {c : Addr} {v : Value} {Q : Value → Shared → Prop} (hv : s.heap.IsCell c (some v)) (h : Q v s) (hc : env.cells.lookup x = some c := by rfl)
    (hk : env.scope.kind = .function := by rfl) (hl : env.kindOf x = some .cell := by rfl) (hd : (x == ("__debug__" : Str)) = false := by decide) :
    wpAny (model prog w) A (eval (.Name x pos) env) Q E s := wpAny_Name (wpAny_loadName_cell hk hl hc hv h) hd
theorem IsCell.at {h h' : Heap} {c : Addr} {v : Option Value} {xs : List Addr} (x : h.IsCell c v) (u : Upto xs h h') (hc : c ∉ xs) : h'.IsCell c v := let ⟨o, ho, hd⟩ := x; ⟨o, u.at ho hc, hd⟩
theorem IsCell.get {h : Heap} {c : Addr} {v : Option Value} (x : h.IsCell c v) : ∃ o, h.get? c = some o ∧ o.data = .cell v := x

/-- a comprehension, up to its loop -/
theorem setComp_start {elt target iter : Expr} {ifs : List Expr} {rest : List Comprehension} {scope : Scope} {pos : Pos} {cl : List (Str × Addr)} {Q : Value → Shared → Prop}
    (hclos : closureFor scope env = pure cl) (hcell : ∀ y ∈ scope.names, y.2 ≠ .cell) (hkind : scope.kind = .function) (hnames : ∀ y ∈ scope.names, y.2 = .local → scope.names.lookup y.1 = some .local)
    (h : wpAny (model prog w) A (eval iter env) (fun x s1 => wpAny (model prog w) A (pyIter x) (fun it s2 => ∀ h3 tk3 acc C, Upto [] s2.heap h3 → s2.heap.get? acc = none → s2.heap.get? C = none → acc ≠ C → h3.get? acc = some (emptySet w) → Loc h3 C [] →
      codeAny (model prog w) A (.compStart (.SetComp elt (⟨target, iter, ifs, 0⟩ :: rest) scope pos) 0 it (.ref acc) (compEnvC scope cl C env)) (compPost (model prog w) A E none Q (.ref acc) C) { s2 with heap := h3, toks := tk3 }) E s1) E s)
    (hs : ∀ x, foldedSetIterable iter env x = pure x := by intro _; rfl) :
    wpAny (model prog w) A (eval (.SetComp elt (⟨target, iter, ifs, 0⟩ :: rest) scope pos) env) Q E s := by
  show wpAny _ _ (comprehension (.SetComp elt (⟨target, iter, ifs, 0⟩ :: rest) scope pos) scope env (firstIterPos (⟨target, iter, ifs, 0⟩ :: rest) pos) (newSet (.type "set")) false (eval iter env)) _ _ _
  refine wpAny_comprehension_free (use := none) rfl hs hclos hkind hnames (wpAny_mono h (fun xv s₁ h₁ => wpAny_mono h₁ (fun it s₂ h₂ => ?_) fun _ _ e => e) fun _ _ e => e)
  refine newSet_led (comp_env hcell hkind fun h' tk u l => ?_)
  have ha : (s₂.heap.push (emptySet w)).get? s₂.heap.objs.size = some (emptySet w) := Heap.get?_push_size _ rfl
  have hsz : (s₂.heap.push (emptySet w)).objs.size = s₂.heap.objs.size + 1 := Heap.size_push ..
  refine h₂ h' tk s₂.heap.objs.size (s₂.heap.push (emptySet w)).objs.size (fun b o hb e => u b o hb (Heap.get?_push_of_some _ e)) get_none_size ?_ ?_ (u.at ha (by simp)) l
  · cases e : s₂.heap.get? (s₂.heap.push (emptySet w)).objs.size with
    | none => rfl
    | some o => have := Heap.lt_size e; rw [hsz] at this; exact absurd this (Nat.not_lt.mpr (Nat.le_succ _))
  · rw [hsz]; exact Nat.ne_of_lt (Nat.lt_succ_self _)

theorem listComp_start {elt target iter : Expr} {ifs : List Expr} {rest : List Comprehension} {scope : Scope} {pos : Pos} {cl : List (Str × Addr)} {Q : Value → Shared → Prop}
    (hclos : closureFor scope env = pure cl) (hcell : ∀ y ∈ scope.names, y.2 ≠ .cell) (hkind : scope.kind = .function) (hnames : ∀ y ∈ scope.names, y.2 = .local → scope.names.lookup y.1 = some .local)
    (h : wpAny (model prog w) A (eval iter env) (fun x s1 => wpAny (model prog w) A (pyIter x) (fun it s2 => ∀ h3 tk3 acc C, Upto [] s2.heap h3 → s2.heap.get? acc = none → s2.heap.get? C = none → acc ≠ C → h3.IsList acc #[] → Loc h3 C [] →
      codeAny (model prog w) A (.compStart (.ListComp elt (⟨target, iter, ifs, 0⟩ :: rest) scope pos) 0 it (.ref acc) (compEnvC scope cl C env)) (compPost (model prog w) A E none Q (.ref acc) C) { s2 with heap := h3, toks := tk3 }) E s1) E s)
    (hs : ∀ x, foldedSetIterable iter env x = pure x := by intro _; rfl) :
    wpAny (model prog w) A (eval (.ListComp elt (⟨target, iter, ifs, 0⟩ :: rest) scope pos) env) Q E s := by
  show wpAny _ _ (comprehension (.ListComp elt (⟨target, iter, ifs, 0⟩ :: rest) scope pos) scope env (firstIterPos (⟨target, iter, ifs, 0⟩ :: rest) pos) (newList []) false (eval iter env)) _ _ _
  refine wpAny_comprehension_free (use := none) rfl hs hclos hkind hnames (wpAny_mono h (fun xv s₁ h₁ => wpAny_mono h₁ (fun it s₂ h₂ => ?_) fun _ _ e => e) fun _ _ e => e)
  refine wpAny_newObj_type (comp_env hcell hkind fun h' tk u l => ?_)
  generalize hob : ({ cls := Value.type "list", dict := none, data := Data.seq ([] : List Value).toArray } : Obj) = ob at u l ⊢
  have ha : (s₂.heap.push ob).get? s₂.heap.objs.size = some ob := Heap.get?_push_size _ (by rw [← hob]; rfl)
  have hsz : (s₂.heap.push ob).objs.size = s₂.heap.objs.size + 1 := Heap.size_push ..
  refine h₂ h' tk s₂.heap.objs.size (s₂.heap.push ob).objs.size (fun b o hb e => u b o hb (Heap.get?_push_of_some _ e)) get_none_size ?_ ?_ ⟨ob, u.at ha (by simp), by rw [← hob], _, by rw [← hob]⟩ l
  · cases e : s₂.heap.get? (s₂.heap.push ob).objs.size with
    | none => rfl
    | some o => have := Heap.lt_size e; rw [hsz] at this; exact absurd this (Nat.not_lt.mpr (Nat.le_succ _))
  · rw [hsz]; exact Nat.ne_of_lt (Nat.lt_succ_self _)

theorem Loc.ns {h : Heap} {L : Addr} {bs : List (Str × Value)} (l : Loc h L bs) : ∃ m, h.Ns L m := let ⟨m, n, _⟩ := l; ⟨m, n⟩
end
end Mine
end

section
open PySem PySem.W PySem.Calls PyProof.Rows
set_option Elab.async false
set_option maxRecDepth 100000
namespace Mine

section
variable {prog : Program} {w : World} {A : Around} {E : Value → Shared → Prop} {s : Shared} {a : Addr}

theorem comp_start_w {R : Result → Shared → Prop} {e : Expr} {gens : List Comprehension} {emit : Value → Env → Sem Unit} {depth : Nat} {acc : Value} {env : Env} {target iter : Expr} {ifs : List Expr} {I : Addr} {fp wr : List Addr} {n i : Nat} {P : Nat → Value → Prop} {St : Nat → Heap → Prop}
    (hc : IsComp e gens emit) (hg : gens[depth]? = some ⟨target, iter, ifs, 0⟩) (W : Walks prog w A I fp wr n P St) (st : St i s.heap)
    (h0 : codeAny (model prog w) A (.compLoop e depth (.ref I) acc env) R s) : codeAny (model prog w) A (.compStart e depth (.ref I) acc env) R s := comp_start hc hg h0 (W.self _ _ _ _ st h0)

theorem qfp_none (hh : A.handled = none) : qfp A = [] := by unfold qfp; rw [hh]

/-- a set of ints, walked, no exception under way -/
theorem iset_iter {A' : Around} {l : List Int} {Q : Value → Shared → Prop} (hh : A'.handled = none) (hS : ISet w true s.heap a l)
    (h : ∀ (I : Addr) (h' : Heap) (vs : List Int) (St : Nat → Heap → Prop), Upto [] s.heap h' → s.heap.get? I = none → (∃ o, h'.get? I = some o ∧ o.cls = .type "set_iterator") → vs.Perm l →
      Walks prog w A' I [I, a] [I] vs.length (fun i v => ∃ k t, vs[i]? = some k ∧ v = .int k t) St → St 0 h' → (∀ i h, St i h → ∃ o, h.get? I = some o ∧ o.cls = .type "set_iterator") → Q (.ref I) { s with heap := h' }) :
    wpAny (model prog w) A (pyIter (.ref a)) Q E s := by
  obtain ⟨es, ep, t, ho, O⟩ := id hS
  have W : WOk w es t := ⟨O.plain, O.led, O.fits, (O.clean rfl).ok⟩
  have hI : (s.heap.push (iterO w a es.size ep t 0)).get? s.heap.objs.size = some (iterO w a es.size ep t 0) := Heap.get?_push_size _ rfl
  have hp := ordE_perm w a ep es
  have hE : ∀ e, e ∈ (ordE w a ep es).toList → ∃ k tok, e = (hashInt k, Value.int k tok) := fun e he => by
    obtain ⟨k, tok, _, e1⟩ := O.ents.map e (hp.mem_iff.mp he)
    exact ⟨k, tok, e1⟩
  have hvs : ((ordE w a ep es).toList.map keyOf).Perm l := by
    have h1 : IntEs es.toList l := O.ents
    refine (hp.map keyOf).trans ?_
    have : ∀ {es : List (Int × Value)} {l : List Int}, IntEs es l → es.map keyOf = l := by
      intro es
      induction es with
      | nil => intro l h; cases l with | nil => rfl | cons _ _ => exact h.elim
      | cons e es ih =>
        intro l h
        cases l with
        | nil => exact h.elim
        | cons k l =>
          obtain ⟨tok, rfl⟩ := h.1
          rw [List.map_cons, ih h.2]
          rfl
    rw [this h1]
  refine pyIter_set ho W ?_
  have hlen : ((ordE w a ep es).toList.map keyOf).length = es.size := by rw [List.length_map, Array.length_toList, ordE_size]
  have ne : a ≠ s.heap.objs.size := ne_size ho
  have hW := setWalks (prog := prog) (A := A') (I := s.heap.objs.size) (ep := ep) W ne
  refine h s.heap.objs.size _ ((ordE w a ep es).toList.map keyOf) (fun i h => h.get? s.heap.objs.size = some (iterO w a es.size ep t i) ∧ h.get? a = some (setO es ep t) ∧ Quiet A' h)
    (fun b o _ e => Heap.get?_push_of_some _ e) get_none_size ⟨_, hI, rfl⟩ hvs ?_ ⟨hI, Heap.get?_push_of_some _ ho, .inl hh⟩ fun i h st => ⟨_, st.1, rfl⟩
  rw [hlen]
  refine { sub := by simp, frame := fun i h h' st hk => hW.frame i h h' st fun b hb => hk b (by rw [qfp_none hh] at hb; exact hb), item := fun i s Q E hi st hQ => ?_, done := hW.done, self := hW.self }
  refine hW.item i s Q E hi st fun v h' tk hv => hQ v h' tk ?_
  obtain ⟨x, hx, rfl⟩ := hv
  obtain ⟨k, tok, e1⟩ := hE x (Array.mem_toList_iff.mpr (Array.mem_of_getElem? hx))
  refine ⟨k, tok, ?_, by rw [e1]⟩
  rw [List.getElem?_map, Array.getElem?_toList, hx, e1]
  rfl

/-- a set of pairs, walked -/
theorem pset_iter {A' : Around} {G : Addr → Prop} {l : List (Int × Int)} {Q : Value → Shared → Prop} (hh : A'.handled = none) (hS : PSet w G s.heap a l)
    (h : ∀ (I : Addr) (h' : Heap) (vs : List (Int × Int)) (St : Nat → Heap → Prop), Upto [] s.heap h' → s.heap.get? I = none → vs.Perm l →
      Walks prog w A' I [I, a] [I] vs.length (fun i v => ∃ p r, vs[i]? = some p ∧ v = .ref r ∧ TupAt s.heap r p ∧ G r) St → St 0 h' → (∀ i h, St i h → ∃ o, h.get? I = some o ∧ o.cls = .type "set_iterator") → Q (.ref I) { s with heap := h' }) :
    wpAny (model prog w) A (pyIter (.ref a)) Q E s := by
  obtain ⟨es, ep, t, ho, O⟩ := id hS
  have W : WOk w es t := ⟨O.plain, O.led, O.clean.fits, O.clean.ok⟩
  have hI : (s.heap.push (iterO w a es.size ep t 0)).get? s.heap.objs.size = some (iterO w a es.size ep t 0) := Heap.get?_push_size _ rfl
  have hp := ordE_perm w a ep es
  obtain ⟨vs, pe, pl⟩ := PEs.perm hp O.ents
  refine pyIter_set ho W ?_
  have hlen : vs.length = es.size := by rw [← pe.length, Array.length_toList, ordE_size]
  have ne : a ≠ s.heap.objs.size := ne_size ho
  have hW := setWalks (prog := prog) (A := A') (I := s.heap.objs.size) (ep := ep) W ne
  refine h s.heap.objs.size _ vs (fun i h => h.get? s.heap.objs.size = some (iterO w a es.size ep t i) ∧ h.get? a = some (setO es ep t) ∧ Quiet A' h)
    (fun b o _ e => Heap.get?_push_of_some _ e) get_none_size pl ?_ ⟨hI, Heap.get?_push_of_some _ ho, .inl hh⟩ fun i h st => ⟨_, st.1, rfl⟩
  rw [hlen]
  refine { sub := by simp, frame := fun i h h' st hk => hW.frame i h h' st fun b hb => hk b (by rw [qfp_none hh] at hb; exact hb), item := fun i s Q E hi st hQ => ?_, done := hW.done, self := hW.self }
  refine hW.item i s Q E hi st fun v h' tk hv => hQ v h' tk ?_
  obtain ⟨x, hx, rfl⟩ := hv
  obtain ⟨p, r, hp', e1, tp, g⟩ := pe.get (i := i) (e := x) (by rw [Array.getElem?_toList]; exact hx)
  exact ⟨p, r, hp', by rw [e1], tp, g⟩

theorem call_add_pair {G : Addr → Prop} {r : Addr} {l : List (Int × Int)} {p : Int × Int} {Q : Value → Shared → Prop} (hu : A.units + 2 < cLine) (hS : PSet w G s.heap a l) (hl : l.length < 18) (ht : TupAt s.heap r p) (hg : G r) (hp : Small p) (hn : p ∉ l)
    (h : ∀ h' l' tk, Heap.SameBut a s.heap h' → PSet w G h' a l' → l'.Perm (p :: l) → Q .none { s with heap := h', toks := tk }) :
    wpAny (model prog w) A (call (.builtin "set.add") [.ref a, .ref r]) Q E s := by
  obtain ⟨o, ho, hc⟩ := hS.get
  refine wpAny_call_entry PySem.F.slot_set_add ⟨o, ho, hc⟩ PySem.F.entry_set_add ?_ (PySem.F.args_set_add_2 _ _)
  unfold Builtin.«set.add» Builtin.Frozenset.oneOther Builtin.Frozenset.addrOf
  refine wpAny_bind (wpAny_bind (wpAny_pure (wpAny_pure ?_)))
  dsimp only
  refine wpAny_bind (setAdd_pair (by show A.units + 1 < cLine; omega) hS hl ht hg hp hn fun h' l' tk x y z => ?_)
  exact wpAny_pure ⟨_, rfl, h h' l' tk x y z⟩

theorem DC.getitem {c : String} {sl : Array (Option Value)} (h : DC c sl) : typeLookup (.type c) "__getitem__" = pure (some (.builtin "dict.__getitem__")) := by
  cases h
  · exact slot_dict_getitem.lookup
  · exact DD.slot_getitem.lookup
theorem look_of {m : List (Int × Addr)} (hn : (m.map (·.1)).Nodup) {p : Int × Addr} (hp : p ∈ m) : look m p.1 = some p.2 := by
  unfold look
  induction m with
  | nil => exact absurd hp List.not_mem_nil
  | cons q m ih =>
    rw [List.map_cons, List.nodup_cons] at hn
    rw [List.find?_cons]
    by_cases e : q.1 = p.1
    · rcases List.mem_cons.mp hp with rfl | hp'
      · simp
      · exact absurd (List.mem_map.mpr ⟨p, hp', e.symm⟩) hn.1
    · rw [decide_eq_false e]
      rcases List.mem_cons.mp hp with rfl | hp'
      · exact absurd rfl e
      · exact ih hn.2 hp'
theorem look_mem {m : List (Int × Addr)} {k : Int} {a : Addr} (h : look m k = some a) : (k, a) ∈ m := by
  unfold look at h
  obtain ⟨p, hp, rfl⟩ := Option.map_eq_some_iff.mp h
  have := List.find?_some hp
  simp only [decide_eq_true_eq] at this
  rw [← this]
  exact List.mem_of_find?_eq_some hp
theorem look_none {m : List (Int × Addr)} {k : Int} (h : look m k = none) : k ∉ m.map (·.1) := by
  unfold look at h
  simp only [Option.map_eq_none_iff, List.find?_eq_none, decide_eq_true_eq] at h
  intro hk
  obtain ⟨p, hp, e⟩ := List.mem_map.mp hk
  exact h p hp e
end
end Mine
end

section
open PySem PySem.W PySem.Calls PyProof.Rows
set_option Elab.async false
set_option maxRecDepth 100000
namespace Mine

noncomputable abbrev KK (w : World) : Frag := hd.heap_39 w.params

section
variable {prog : Program} {w : World} {A : Around} {E : Value → Shared → Prop} {R : Result → Shared → Prop} {s : Shared}

set_option maxHeartbeats 1000000 in
theorem gen_edges {d : Addr} {c : String} {sl : Array (Option Value)} {ep : Nat} {m : List (Int × Addr)} {f : Int → List Int} (B : Base (KK w) s.heap) (hh : A.handled = none) (hroom : A.depth < recursionLimit) (hu : A.units + 50 < cLine)
    (hd : DT s.heap d c sl ep m) (hS : ∀ p, p ∈ m → ISet w true s.heap p.2 (f p.1)) (hk : ∀ p, p ∈ m → f p.1 ≠ [] → p.1 ∈ six)
    (hB : ∀ l : List (Int × Int), l.Nodup → (∀ p, p ∈ l → ∃ q, q ∈ m ∧ p.2 = q.1 ∧ p.1 ∈ f q.1) → l.length ≤ 12)
    (h : ∀ h' tk r l, Upto [] s.heap h' → s.heap.get? r = none → PSet w (fun a => s.heap.get? a = none) h' r l → (∀ p, p ∈ l ↔ ∃ q, q ∈ m ∧ p.2 = q.1 ∧ p.1 ∈ f q.1) → R (.ok (.ret (.ref r))) { s with heap := h', toks := tk }) :
    codeAny (model prog w) A (.call (.ref 77) ⟨[.ref d], []⟩) R s := by
  refine call_fn B (a := 77) (o := _) rfl rfl (by kernel_rfl) hroom rfl (binds := [(Str.ofString "edges", .ref d)]) (by rfl) rfl (fun n => by rfl) ?_
  intro h1 tk U1 hns hcell habove
  have hce : h1.IsCell (s.heap.objs.size + 1) (some (.ref d)) := hcell (Str.ofString "edges") (s.heap.objs.size + 1) rfl
  clear hcell habove hns
  refine wpAny_execs_cons (wpAny_Return_some ?_)
  generalize hA : A.deeper _ = A'
  have hh' : A'.handled = none := by rw [← hA]; exact hh
  have hu' : A'.units + 47 < cLine := by rw [← hA]; show A.units + 3 + 47 < cLine; omega
  clear hA
  refine setComp_start (cl := [(Str.ofString "edges", s.heap.objs.size + 1)]) (by rfl) (by decide) rfl (by decide) ?_
  refine ldC hce ?_
  have hd1 := hd.at U1 (by simp)
  obtain ⟨_, _, hDC, _⟩ := id hd1
  refine pyIter_DT hd1 fun h3 tk3 acc C U3 fa fC ne ha hl => ?_
  obtain ⟨od, hod, hodc⟩ := hd1.get
  have neI : d ≠ h1.objs.size := ne_size hod
  have hI0 : (h1.push (keyIterO d 0 m.length ep)).get? h1.objs.size = some (keyIterO d 0 m.length ep) := Heap.get?_push_size _ rfl
  have U3' : Upto [] h1 h3 := fun b o hb e => U3 b o hb (Heap.get?_push_of_some _ e)
  have neCI : C ≠ h1.objs.size := fun e => ne_of_none hI0 fC e.symm
  have neAI : acc ≠ h1.objs.size := fun e => ne_of_none hI0 fa e.symm
  have f1a : h1.get? acc = none := by cases e : h1.get? acc with | none => rfl | some o => rw [Heap.get?_push_of_some _ e] at fa; cases fa
  have f1C : h1.get? C = none := by cases e : h1.get? C with | none => rfl | some o => rw [Heap.get?_push_of_some _ e] at fC; cases fC
  have f1I : h1.get? h1.objs.size = none := get_none_size
  have hW := dtWalks (prog := prog) (w := w) (A := A') (c := c) (sl := sl) (ep := ep) (m := m) hh' neI
  let G : Addr → Prop := fun a => h1.get? a = none ∧ a ≠ h1.objs.size ∧ a ≠ C
  let J : Nat → Heap → Prop := fun i h => Upto [] h1 h ∧ Loc h C [] ∧ ∃ l, PSet w G h acc l ∧ ∀ p, p ∈ l ↔ ∃ q, q ∈ m.take i ∧ p.2 = q.1 ∧ p.1 ∈ f q.1
  have st0 : h3.get? h1.objs.size = some (keyIterO d 0 m.length ep) ∧ DT h3 d c sl ep m := ⟨U3.at hI0 (by simp), hd1.at U3' (by simp)⟩
  refine comp_start_w (IsComp.set _ _ _ _) rfl hW st0 ?_
  refine comp_loop_mid (IsComp.set _ _ _ _) rfl rfl (fun x => rfl) hW (J := J) st0 ⟨U3', hl, [], pset_empty ha, fun p => by simp⟩ ?_ ?_ ?_
  · rintro i h h' ⟨u, lo, l, ps, hm⟩ v
    refine ⟨u.write v fun b hb => .inl (by rw [List.mem_singleton.mp hb]; exact f1I), lo.at v (by simpa using neCI), l, ps.at v (by simpa using neAI) (fun b hb g => ?_), hm⟩
    exact g.2.1 (List.mem_singleton.mp hb)
  · rintro i v h4 tk4 hi ⟨q, t, hq, rfl⟩ hst ⟨u4, l4, l, ps4, hm4⟩
    have hqm : q ∈ m := List.mem_of_getElem? hq
    refine letOwn_name (wpAny_assign_Name (stL l4 fun h5 l5 sb5 => ?_))
    have u45 : Upto [C] h4 h5 := Upto.same sb5 (.head _)
    have u5 : Upto [] h1 h5 := u4.write u45 fun b hb => .inl (by rw [List.mem_singleton.mp hb]; exact f1C)
    have ps5 : PSet w G h5 acc l := ps4.at u45 (by simpa using ne) fun b hb g => g.2.2 (List.mem_singleton.mp hb)
    refine wpAny_Subscript_Name (T := c) (id := "dict.__getitem__") hDC.getitem (ldC (IsCell.at hce u5 (by simp)) (ldL l5 rfl ⟨(hd1.at u5 (by simp)).type, ?_⟩))
    refine getItem_hit (hd1.at u5 (by simp)) (look_of hd1.nodup hqm) ?_
    have hSq : ISet w true h5 q.2 (f q.1) := ((hS q hqm).at U1 (by simp)).at u5 (by simp)
    refine iset_iter (A' := A') (s := { s with heap := h5, toks := _ }) hh' hSq fun I1 h6 vs St1 u56 fI1 hI1 pvs W1 st1 hcl1 => ?_
    dsimp only at u56 fI1
    have hCg := l5.get
    obtain ⟨oC, esC, epC, hoC, hdC⟩ := hCg
    have neC1 : C ≠ I1 := ne_of_none hoC fI1
    obtain ⟨oa, hoa, hca⟩ := ps5.get
    have nea1 : acc ≠ I1 := ne_of_none hoa fI1
    have h5I0 : h5.get? h1.objs.size = some (keyIterO d (i + 1) m.length ep) := u45.at hst.1 (by simpa using neCI.symm)
    have ne01 : h1.objs.size ≠ I1 := ne_of_none h5I0 fI1
    obtain ⟨oq, hoq, hcq⟩ := hSq.get
    have neqC : q.2 ≠ C := by
      obtain ⟨o', ho', hc'⟩ := ((hS q hqm).at U1 (by simp)).get
      exact ne_of_none ho' f1C
    have neqA : q.2 ≠ acc := by
      obtain ⟨o', ho', hc'⟩ := ((hS q hqm).at U1 (by simp)).get
      exact ne_of_none ho' f1a
    have nedC : d ≠ C := ne_of_none hod f1C
    have neda : d ≠ acc := ne_of_none hod f1a
    let G1 : Addr → Prop := fun r => G r ∧ r ≠ I1
    let J1 : Nat → Heap → Prop := fun k h => Upto [C, acc] h5 h ∧ Loc h C [(Str.ofString "left", .int q.1 t)] ∧ ∃ l', PSet w G1 h acc l' ∧ ∀ p, p ∈ l' ↔ p ∈ l ∨ (p.2 = q.1 ∧ p.1 ∈ vs.take k)
    have hvn : vs.Nodup := pvs.nodup_iff.mpr hSq.nodup
    have ps5' : PSet w G1 h5 acc l := ps5.weak fun r p tp g => ⟨g, by
      obtain ⟨o', ho', _⟩ := tp.get
      exact ne_of_none ho' fI1⟩
    have hu'' : (A'.mark none).units + 2 < cLine := by show A'.units + 2 < cLine; omega
    refine wpAny_runOwn ?_
    refine comp_start_w (IsComp.set _ _ _ _) rfl W1 (i := 0) st1 ?_
    refine comp_loop (IsComp.set _ _ _ _) W1 (J := J1) st1 ⟨u56.mono (by simp), (l5.at u56 (by simp)).pick ⟨rfl, trivial⟩, l, ps5'.at u56 (by simp) (by simp), fun p => by simp⟩ ?_ (fun Q E s hx => comp_turn_last (IsComp.set _ _ _ _) rfl rfl hx) ?_ ?_
    · rintro k h h' ⟨u, lo, l', ps, hm⟩ v
      refine ⟨u.write v fun b hb => .inl (by rw [List.mem_singleton.mp hb]; exact fI1), lo.at v (by simpa using neC1), l', ps.at v (by simpa using nea1) (fun b hb g => g.2 (List.mem_singleton.mp hb)), hm⟩
    · rintro k v h7 tk7 hk7 ⟨x, tx, hx, rfl⟩ hst7 ⟨u7, l7, l', ps7, hm7⟩
      have hxf : x ∈ f q.1 := pvs.mem_iff.mp (List.mem_of_getElem? hx)
      refine letOwn_name (wpAny_assign_Name (stL l7 fun h8 l8 sb8 => wpAny_pure ?_))
      have u78 : Upto [C] h7 h8 := Upto.same sb8 (.head _)
      simp only [↓reduceIte]
      refine wpAny_bind (tuple2 (ldL l8 rfl (ldL l8 rfl ?_)))
      refine wpAny_bind (wpAny_standAt (wpAny_bind ?_))
      have ps8 : PSet w G1 h8 acc l' := ps7.at u78 (by simpa using ne) fun b hb g => g.1.2.2 (List.mem_singleton.mp hb)
      have u58 : Upto [C, acc] h5 h8 := u7.write u78 fun b hb => .inr (by rw [List.mem_singleton.mp hb]; exact .head _)
      have u18 : Upto [] h1 h8 := fun b o hb e => u58 b o (by
        simp only [List.mem_cons, List.not_mem_nil, or_false, not_or]
        exact ⟨ne_of_none e f1C, ne_of_none e f1a⟩) (u5 b o hb e)
      generalize hob : ({ cls := Value.type "tuple", data := Data.seq #[.int x tx, .int q.1 t] } : Obj) = ob
      have ht : TupAt (h8.push ob) h8.objs.size (x, q.1) := by
        subst hob
        exact ⟨_, _, _, _, Heap.get?_push_size _ rfl, rfl, rfl⟩
      have hq6 : q.1 ∈ six := hk q hqm (List.ne_nil_of_mem hxf)
      have hx6 : x ∈ six := hSq.six x hxf
      have hnew : (x, q.1) ∉ l' := by
        rw [hm7]
        rintro (z | ⟨_, z⟩)
        · obtain ⟨q', hq', e1, _⟩ := (hm4 _).mp z
          have := nodup_take hd1.nodup (i := i) (x := q.1) (by rw [List.getElem?_map, hq]; rfl)
          rw [← List.map_take] at this
          exact this (List.mem_map.mpr ⟨q', hq', e1.symm⟩)
        · exact nodup_take hvn hx z
      have hlen : l'.length ≤ 12 := hB l' ps8.nodup fun p hp => by
        rcases (hm7 p).mp hp with z | ⟨z1, z2⟩
        · obtain ⟨q', hq', e1, e2⟩ := (hm4 _).mp z
          exact ⟨q', List.mem_of_mem_take hq', e1, e2⟩
        · exact ⟨q, hqm, z1, pvs.mem_iff.mp (List.mem_of_mem_take z2)⟩
      have g1 : G1 h8.objs.size := by
        have h8I0 : h8.get? h1.objs.size = some (keyIterO d (i + 1) m.length ep) := u58.at h5I0 (by simp [neCI.symm, neAI.symm])
        obtain ⟨o1, ho1, _⟩ := hcl1 _ _ hst7
        have h8I1 := u78.at ho1 (by simpa using neC1.symm)
        obtain ⟨oC8, _, _, hoC8, _⟩ := l8.get
        exact ⟨⟨u18.none_size (by simp), fun e => ne_size h8I0 e.symm, fun e => ne_size hoC8 e.symm⟩, fun e => ne_size h8I1 e.symm⟩
      refine call_add_pair (s := { s with heap := h8.push ob, toks := _ }) hu'' (ps8.at (Upto.push (xs := []) ob) (by simp) (by simp)) (by omega) ht g1 ⟨hx6, hq6⟩ hnew fun h9 l9 tk9 sb9 ps9 pl9 => wpAny_pure ⟨h9, tk9, rfl, ⟨?_, (l8.at (Upto.push (xs := []) ob) (by simp)).at (Upto.same sb9 (.head _)) (show C ∉ [acc] by simpa using ne.symm) |>.pick ⟨rfl, trivial⟩, l9, ps9, ?_⟩, ?_⟩
      · exact (u58.trans (Upto.push ob)).write (Upto.same sb9 (.head [])) fun b hb => .inr (by rw [List.mem_singleton.mp hb]; simp)
      · intro p
        rw [pl9.mem_iff, List.mem_cons, hm7, mem_take_succ hx]
        constructor
        · rintro (rfl | z | ⟨z1, z2⟩)
          · exact .inr ⟨rfl, .inr rfl⟩
          · exact .inl z
          · exact .inr ⟨z1, .inl z2⟩
        · rintro (z | ⟨z1, z2 | z2⟩)
          · exact .inr (.inl z)
          · exact .inr (.inr ⟨z1, z2⟩)
          · exact .inl (Prod.ext z2 z1)
      · intro b hb o e
        have hbC : b ≠ C := by
          rcases List.mem_cons.mp hb with rfl | hb
          · exact fun e => neC1 e.symm
          · rw [List.mem_singleton.mp hb]; exact neqC
        have hba : b ≠ acc := by
          rcases List.mem_cons.mp hb with rfl | hb
          · exact fun e => nea1 e.symm
          · rw [List.mem_singleton.mp hb]; exact neqA
        exact (Upto.same sb9 (.head [])) b o (by simpa using hba) (Heap.get?_push_of_some _ (u78 b o (by simpa using hbC) e))
    · rintro h' tk' ⟨u, lo, l', ps, hm⟩
      refine ⟨h', tk', rfl, ⟨?_, lo.pick trivial, l', ps.weak fun r p _ g => g.1, ?_⟩, ?_⟩
      · exact fun b o hb e => u b o (by
          simp only [List.mem_cons, List.not_mem_nil, or_false, not_or]
          exact ⟨ne_of_none e f1C, ne_of_none e f1a⟩) (u5 b o hb e)
      · intro p
        rw [hm, List.take_length, hm4]
        constructor
        · rintro (⟨q', z, e1, e2⟩ | ⟨z1, z2⟩)
          · exact ⟨q', (mem_take_succ hq).mpr (.inl z), e1, e2⟩
          · exact ⟨q, (mem_take_succ hq).mpr (.inr rfl), z1, pvs.mem_iff.mp z2⟩
        · rintro ⟨q', z, e1, e2⟩
          rcases (mem_take_succ hq).mp z with z | rfl
          · exact .inl ⟨q', z, e1, e2⟩
          · exact .inr ⟨e1, pvs.mem_iff.mpr e2⟩
      · intro b hb o e
        have hbC : b ≠ C := by
          rcases List.mem_cons.mp hb with rfl | hb
          · exact fun e => neCI e.symm
          · rw [List.mem_singleton.mp hb]; exact nedC
        have hba : b ≠ acc := by
          rcases List.mem_cons.mp hb with rfl | hb
          · exact fun e => neAI e.symm
          · rw [List.mem_singleton.mp hb]; exact neda
        exact u b o (by simp [hbC, hba]) (u45 b o (by simpa using hbC) e)
  · rintro h' tk' ⟨u, lo, l, ps, hm⟩
    obtain ⟨mm, hns⟩ := lo.ns
    refine ⟨mm, hns, fun h'' sb => h h'' tk' acc l ?_ ?_ ?_ ?_⟩
    · exact fun b o hb e => (Upto.same sb (.head [])) b o (by simpa using ne_of_none (U1 b o hb e) f1C) (u b o hb (U1 b o hb e))
    · cases e : s.heap.get? acc with
      | none => rfl
      | some o => exact absurd (U1 _ o (by simp) e) (by rw [f1a]; simp)
    · refine (ps.at (Upto.same sb (.head [])) (by simpa using ne) fun b hb g => g.2.2 (List.mem_singleton.mp hb)).weak fun r p _ g => ?_
      cases e : s.heap.get? r with
      | none => rfl
      | some o => exact absurd (U1 _ o (by simp) e) (by rw [g.1]; simp)
    · intro p
      rw [hm, List.take_length]
end
end Mine
end

section
open PySem PySem.W PySem.Calls PyProof.Rows
set_option Elab.async false
set_option maxRecDepth 100000
namespace Mine

def eight : List Int := [0, 1, 2, 3, 4, 5, 6, 7]
theorem nodup_sub_len {α : Type} [DecidableEq α] : ∀ {l b : List α}, l.Nodup → (∀ x, x ∈ l → x ∈ b) → l.length ≤ b.length
  | [], _, _, _ => Nat.zero_le _
  | x :: l, b, hn, hs => by
    obtain ⟨h1, h2⟩ := List.nodup_cons.mp hn
    have hx := hs x (.head _)
    have := nodup_sub_len (b := b.erase x) h2 fun y hy => by
      have : y ≠ x := fun e => h1 (e ▸ hy)
      exact (List.mem_erase_of_ne this).mpr (hs y (.tail _ hy))
    rw [List.length_erase_of_mem hx] at this
    have hb : 0 < b.length := List.length_pos_of_mem hx
    rw [List.length_cons]
    omega

/-- a table of sets of ints -/
structure Tb (w : World) (h : Heap) (d : Addr) (c : String) (sl : Array (Option Value)) (m : List (Int × Addr)) (f : Int → List Int) : Prop where
  dt : ∃ ep, DT h d c sl ep m
  set : ∀ p, p ∈ m → ISet w true h p.2 (f p.1)
  apart : (m.map (·.2)).Nodup
  out : ∀ k, k ∉ m.map (·.1) → f k = []
  keys : ∀ p, p ∈ m → p.1 ∈ eight

section
variable {w : World} {h h' : Heap} {d : Addr} {c : String} {sl : Array (Option Value)} {m : List (Int × Addr)} {f : Int → List Int}
theorem Tb.nodup (T : Tb w h d c sl m f) : (m.map (·.1)).Nodup := let ⟨_, x⟩ := T.dt; x.nodup
theorem Tb.len (T : Tb w h d c sl m f) : m.length ≤ 8 := by
  have := nodup_sub_len (b := eight) T.nodup fun x hx => by
    obtain ⟨p, hp, rfl⟩ := List.mem_map.mp hx
    exact T.keys p hp
  simpa [eight] using this
theorem Tb.at {xs : List Addr} (T : Tb w h d c sl m f) (u : Upto xs h h') (hd : d ∉ xs) (hs : ∀ p, p ∈ m → p.2 ∉ xs) : Tb w h' d c sl m f :=
  { T with dt := let ⟨ep, x⟩ := T.dt; ⟨ep, x.at u hd⟩, set := fun p hp => (T.set p hp).at u (hs p hp) }
theorem Tb.get (T : Tb w h d c sl m f) : ∃ o, h.get? d = some o ∧ o.cls = .type c := let ⟨_, x⟩ := T.dt; x.get
theorem Tb.sets (T : Tb w h d c sl m f) {p : Int × Addr} (hp : p ∈ m) : ∃ o, h.get? p.2 = some o ∧ o.cls = .type "set" := (T.set p hp).get
theorem Tb.ne_d (T : Tb w h d c sl m f) (hc : c ≠ "set") {p : Int × Addr} (hp : p ∈ m) : p.2 ≠ d := by
  obtain ⟨o, ho, hc1⟩ := T.sets hp
  obtain ⟨o', ho', hc2⟩ := T.get
  exact cls_ne ho ho' (by rw [hc1, hc2]; exact fun e => hc (Value.type.inj e).symm)
/-- one of its sets grows -/
theorem Tb.grow {k : Int} {a : Addr} {l : List Int} (T : Tb w h d c sl m f) (hc : c ≠ "set") (hk : look m k = some a) (sb : Heap.SameBut a h h') (hl : ISet w true h' a l) : Tb w h' d c sl m (fun x => if x = k then l else f x) := by
  have hm := look_mem hk
  have u : Upto [a] h h' := Upto.same sb (.head _)
  refine ⟨let ⟨ep, x⟩ := T.dt; ⟨ep, x.at u (by simpa using (T.ne_d hc hm).symm)⟩, fun p hp => ?_, T.apart, fun x hx => ?_, T.keys⟩
  · by_cases e : p.1 = k
    · have : p = (k, a) := by
        have h1 := look_of T.nodup hp
        rw [e, hk] at h1
        exact Prod.ext e (Option.some.inj h1).symm
      subst this
      show ISet w true h' a (if k = k then l else f k)
      rw [if_pos rfl]; exact hl
    · show ISet w true h' p.2 (if p.1 = k then l else f p.1)
      rw [if_neg e]
      refine (T.set p hp).at u ?_
      simp only [List.mem_singleton]
      intro e2
      have : p = (k, a) := by
        obtain ⟨i, hi, rfl⟩ := List.mem_iff_getElem.mp hp
        obtain ⟨j, hj, ej⟩ := List.mem_iff_getElem.mp hm
        rcases Nat.lt_trichotomy i j with q | q | q
        · exact (List.pairwise_iff_getElem.mp T.apart i j (by simpa using hi) (by simpa using hj) q (by simp [e2, ej])).elim
        · subst q; exact ej
        · exact (List.pairwise_iff_getElem.mp T.apart j i (by simpa using hj) (by simpa using hi) q (by simp [e2, ej])).elim
      exact e (by rw [this])
  · have : x ≠ k := by
      rintro rfl
      exact hx (List.mem_map.mpr ⟨_, hm, rfl⟩)
    show (if x = k then l else f x) = []
    rw [if_neg this]
    exact T.out x hx
/-- a new set is laid under a new key -/
theorem Tb.fresh {k : Int} {a : Addr} (T : Tb w h d c sl m f) {ep : Nat} (u : Upto [d] h h') (hd : DT h' d c sl ep (m ++ [(k, a)])) (hc : c ≠ "set") (ha : h'.get? a = some (emptySet w)) (hn : ∀ p, p ∈ m → p.2 ≠ a) (hk : look m k = none) (h8 : k ∈ eight) : Tb w h' d c sl (m ++ [(k, a)]) f := by
  have hf : f k = [] := T.out k (look_none hk)
  refine ⟨⟨ep, hd⟩, fun p hp => ?_, ?_, fun x hx => T.out x fun q => hx (by rw [List.map_append]; exact List.mem_append_left _ q), fun p hp => ?_⟩
  · rcases List.mem_append.mp hp with q | q
    · exact (T.set p q).at u (by simpa using T.ne_d hc q)
    · rw [List.mem_singleton.mp q]
      show ISet w true h' a (f k)
      rw [hf]; exact iset_empty ha
  · rw [List.map_append, List.nodup_append]
    refine ⟨T.apart, by simp, ?_⟩
    intro x hx y hy
    obtain ⟨p, hp, rfl⟩ := List.mem_map.mp hx
    simp at hy
    subst hy
    exact hn p hp
  · rcases List.mem_append.mp hp with q | q
    · exact T.keys p q
    · rw [List.mem_singleton.mp q]; exact h8
end

/-- the pairs at the places of a list -/
def Tups (h : Heap) : List Addr → List (Int × Int) → Prop
  | [], [] => True
  | r :: rs, p :: ps => TupAt h r p ∧ Tups h rs ps
  | _, _ => False
theorem Tups.length {h : Heap} : ∀ {rs : List Addr} {ps : List (Int × Int)}, Tups h rs ps → rs.length = ps.length
  | [], [], _ => rfl
  | _ :: _, _ :: _, h => by rw [List.length_cons, List.length_cons, Tups.length h.2]
  | [], _ :: _, h => h.elim
  | _ :: _, [], h => h.elim
theorem Tups.get {h : Heap} : ∀ {rs : List Addr} {ps : List (Int × Int)}, Tups h rs ps → ∀ {i : Nat} {r : Addr}, rs[i]? = some r → ∃ p, ps[i]? = some p ∧ TupAt h r p
  | [], [], _, i, e, he => by simp at he
  | [], _ :: _, h, _, _, _ => h.elim
  | _ :: _, [], h, _, _, _ => h.elim
  | _ :: _, p :: _, h, 0, r, he => by simp at he; exact ⟨p, rfl, he ▸ h.1⟩
  | _ :: _, _ :: _, h, i + 1, r, he => by simp only [List.getElem?_cons_succ] at he ⊢; exact Tups.get h.2 he
theorem Tups.mem {h : Heap} {rs : List Addr} {ps : List (Int × Int)} (H : Tups h rs ps) {r : Addr} (hr : r ∈ rs) : ∃ p, TupAt h r p := by
  obtain ⟨i, hi, rfl⟩ := List.mem_iff_getElem.mp hr
  obtain ⟨p, _, t⟩ := H.get (List.getElem?_eq_getElem hi)
  exact ⟨p, t⟩
theorem Tups.at {h h' : Heap} {xs : List Addr} : ∀ {rs : List Addr} {ps : List (Int × Int)}, Tups h rs ps → Upto xs h h' → (∀ r, r ∈ rs → r ∉ xs) → Tups h' rs ps
  | [], [], _, _, _ => trivial
  | [], _ :: _, h, _, _ => h.elim
  | _ :: _, [], h, _, _ => h.elim
  | _ :: _, _ :: _, h, u, k => ⟨h.1.at u (k _ (.head _)), Tups.at h.2 u fun r hr => k r (.tail _ hr)⟩
theorem Tups.snoc {h : Heap} {r : Addr} {p : Int × Int} : ∀ {rs : List Addr} {ps : List (Int × Int)}, Tups h rs ps → TupAt h r p → Tups h (rs ++ [r]) (ps ++ [p])
  | [], [], _, t => ⟨t, trivial⟩
  | [], _ :: _, h, _ => h.elim
  | _ :: _, [], h, _ => h.elim
  | _ :: _, _ :: _, h, t => ⟨h.1, Tups.snoc h.2 t⟩
end Mine
end

section
open PySem PySem.W PySem.Calls PyProof.Rows
set_option Elab.async false
set_option maxRecDepth 100000
namespace Mine
section
variable {prog : Program} {w : World} {A : Around} {E : Value → Shared → Prop} {R : Result → Shared → Prop} {s : Shared} {env : Env} {bs : List (Str × Value)}

theorem assign2 {x y : Str} {px py pos : Pos} {k} {r : Addr} {v1 v2 : Value} {Q : Unit → Shared → Prop} (hh : A.handled = none) (ht : s.heap.IsTuple r #[v1, v2]) (l : Loc s.heap env.locals bs)
    (h : ∀ h' tk, Loc h' env.locals ((y, v2) :: (x, v1) :: bs) → Upto [env.locals] s.heap h' → Q () { s with heap := h', toks := tk })
    (hx : env.kindOf x = some .local := by rfl) (hy : env.kindOf y = some .local := by rfl) (hp : (env.scope.kind == .class || (env.scope.kind == .module && env.locals != env.globals)) = false := by rfl) :
    wpAny (model prog w) A (assign (.Tuple [.Name x px, .Name y py] k pos) env (.ref r)) Q E s := by
  refine wpAny_assign_Tuple hh ht rfl rfl fun h1 e1 => ?_
  have u1 : Upto [] s.heap h1 := fun b o _ e => e1 b o (ne_size e) e
  show wpAny _ _ (assignInOrder [assign (.Name x px) env, assign (.Name y py) env] [v1, v2]) _ _ _
  unfold assignInOrder
  refine wpAny_bind (wpAny_holding (wpAny_assign_Name (stL (l.at u1 (by simp)) (fun h2 l2 sb2 => ?_) hx hp)))
  unfold assignInOrder
  refine wpAny_bind (wpAny_holding (wpAny_assign_Name (stL l2 (fun h3 l3 sb3 => ?_) hy hp)))
  unfold assignInOrder
  refine wpAny_pure (h h3 _ l3 ?_)
  exact (u1.mono (by simp)).trans ((Upto.same sb2 (.head _)).trans (Upto.same sb3 (.head _)))

theorem TupAt.tuple {h : Heap} {r : Addr} {p : Int × Int} (x : TupAt h r p) : ∃ t u, h.IsTuple r #[.int p.1 t, .int p.2 u] := let ⟨o, n, t, u, ho, hc, hd⟩ := x; ⟨t, u, o, ho, hc, n, hd⟩
theorem Tb.ne_loc {h : Heap} {d : Addr} {c : String} {sl : Array (Option Value)} {m : List (Int × Addr)} {f : Int → List Int} {L : Addr} (T : Tb w h d c sl m f) (l : Loc h L bs) {p : Int × Addr} (hp : p ∈ m) : p.2 ≠ L := by
  obtain ⟨o, es, ep, ho, hd⟩ := l.get
  obtain ⟨es', ep', t', ho', O⟩ := T.set p hp
  exact data_ne ho' ho (by rw [hd]; exact fun e => nomatch e)
theorem Loc.ne_list {h : Heap} {L a : Addr} {vs : Array Value} (l : Loc h L bs) (x : h.IsList a vs) : a ≠ L := by
  obtain ⟨o, es, ep, ho, hd⟩ := l.get
  obtain ⟨o', ho', _, n, hd'⟩ := x
  exact data_ne ho' ho (by rw [hd, hd']; exact fun e => nomatch e)
theorem Loc.ne_tup {h : Heap} {L a : Addr} {p : Int × Int} (l : Loc h L bs) (x : TupAt h a p) : a ≠ L := by
  obtain ⟨o, es, ep, ho, hd⟩ := l.get
  obtain ⟨o', n, _, _, ho', _, hd'⟩ := x
  exact data_ne ho' ho (by rw [hd, hd']; exact fun e => nomatch e)
theorem Loc.ne_set {h : Heap} {L a : Addr} {c : Bool} {ns : List Int} (l : Loc h L bs) (x : ISet w c h a ns) : a ≠ L := by
  obtain ⟨o, es, ep, ho, hd⟩ := l.get
  obtain ⟨es', ep', t', ho', O⟩ := x
  exact data_ne ho' ho (by rw [hd]; exact fun e => nomatch e)
theorem none_of {h h' : Heap} {a : Addr} (u : Upto [] h h') (x : h'.get? a = none) : h.get? a = none := by
  cases e : h.get? a with
  | none => rfl
  | some o => rw [u a o (by simp) e] at x; cases x

/-! the program's names -/
theorem big {h : Heap} (B : Base (KK w) h) : h.objs.size ≠ sysModules := by
  have := Heap.lt_size (B.1 3 _ rfl)
  intro e
  rw [e] at this
  exact absurd this (by decide)
theorem g_set : nsIn (KK w) mainGlobals (Str.ofString "set") = some none := by kernel_rfl
theorem g_list : nsIn (KK w) mainGlobals (Str.ofString "list") = some none := by kernel_rfl
theorem g_sorted : nsIn (KK w) mainGlobals (Str.ofString "sorted") = some none := by kernel_rfl
theorem g_isinstance : nsIn (KK w) mainGlobals (Str.ofString "isinstance") = some none := by kernel_rfl
theorem g_range : nsIn (KK w) mainGlobals (Str.ofString "range") = some none := by kernel_rfl
theorem g_dd : nsIn (KK w) mainGlobals (Str.ofString "defaultdict") = some (some (.type "collections.defaultdict")) := by kernel_rfl
theorem g_find : nsIn (KK w) mainGlobals (Str.ofString "find_cycles") = some (some (.ref 72)) := by kernel_rfl
theorem g_gen : nsIn (KK w) mainGlobals (Str.ofString "_gen_edges") = some (some (.ref 77)) := by kernel_rfl
theorem g_subsets : nsIn (KK w) mainGlobals (Str.ofString "sort_as_subsets") = some (some (.ref 57)) := by kernel_rfl
theorem g_sort : nsIn (KK w) mainGlobals (Str.ofString "sort") = some (some (.ref 65)) := by kernel_rfl
theorem g_table : nsIn (KK w) mainGlobals (Str.ofString "_law_table") = some (some (.ref 84)) := by kernel_rfl
theorem g_walk : nsIn (KK w) mainGlobals (Str.ofString "_law_walk") = some (some (.ref 91)) := by kernel_rfl
theorem g_plain : nsIn (KK w) mainGlobals (Str.ofString "_law_plain") = some (some (.ref 98)) := by kernel_rfl
theorem g_err : nsIn (KK w) mainGlobals (Str.ofString "CircularDependencyError") = some (some (.ref 49)) := by kernel_rfl
theorem b_set : bootBuiltins (Str.ofString "set") = some (.type "set") := by kernel_rfl
theorem b_list : bootBuiltins (Str.ofString "list") = some (.type "list") := by kernel_rfl
theorem b_sorted : bootBuiltins (Str.ofString "sorted") = some (.builtin "sorted") := by kernel_rfl
theorem b_isinstance : bootBuiltins (Str.ofString "isinstance") = some (.builtin "isinstance") := by kernel_rfl
theorem b_range : bootBuiltins (Str.ofString "range") = some (.type "range") := by kernel_rfl

theorem ldSet {pos : Pos} {Q : Value → Shared → Prop} (b : Base (KK w) s.heap) (h : Q (.type "set") s)
    (hk : env.scope.kind = .function := by rfl) (hl : env.kindOf (Str.ofString "set") = some .globalImplicit := by rfl) (hg : env.globals = mainGlobals := by rfl) (hb : env.builtins = builtinsNs := by rfl) :
    wpAny (model prog w) A (eval (.Name (Str.ofString "set") pos) env) Q E s := ldB b g_set b_set (by decide) h hk hl hg hb
end
end Mine
end

section
open PySem PySem.W PySem.Calls PyProof.Rows
set_option Elab.async false
set_option maxRecDepth 100000
namespace Mine
section
variable {prog : Program} {w : World} {A : Around} {E : Value → Shared → Prop} {R : Result → Shared → Prop} {s : Shared} {env : Env} {bs : List (Str × Value)}

def kvOf (b : Bool) (p : Int × Int) : Int × Int := if b then p else (p.2, p.1)
theorem kv_small {b : Bool} {p : Int × Int} (h : Small p) : Small (kvOf b p) := by
  cases b
  · exact ⟨h.2, h.1⟩
  · exact h
theorem six_eight {k : Int} (h : k ∈ six) : k ∈ eight := by
  simp [six, eight] at h ⊢
  omega

theorem dict_tb {h : Heap} {d : Addr} (hd : h.get? d = some { cls := .type "dict", data := .dict #[] }) (hz : d ≠ sysModules) : Tb w h d "dict" #[] [] (fun _ => []) :=
  ⟨⟨0, #[], hd, .dict, trivial, .nil, hz⟩, fun _ h => absurd h List.not_mem_nil, .nil, fun _ _ => rfl, fun _ h => absurd h List.not_mem_nil⟩

set_option maxHeartbeats 1000000 in
theorem law_table {ax : Addr} {rs : List Addr} {ps : List (Int × Int)} {b : Bool} (B : Base (KK w) s.heap) (hh : A.handled = none) (hroom : A.depth < recursionLimit) (hl : s.heap.IsList ax (rs.map Value.ref).toArray) (ht : Tups s.heap rs ps) (hs : ∀ p, p ∈ ps → Small p)
    (h : ∀ h' tk d m f, Upto [] s.heap h' → s.heap.get? d = none → Tb w h' d "dict" #[] m f → (∀ k x, x ∈ f k ↔ ∃ p, p ∈ ps ∧ kvOf b p = (k, x)) → R (.ok (.ret (.ref d))) { s with heap := h', toks := tk }) :
    codeAny (model prog w) A (.call (.ref 84) ⟨[.ref ax, .bool b], []⟩) R s := by
  refine call_fn B (a := 84) (o := _) rfl rfl (by kernel_rfl) hroom rfl (binds := [(Str.ofString "rows", .ref ax), (Str.ofString "turned", .bool b)]) (by rfl) rfl (fun n => by rfl) ?_
  intro h1 tk U1 hns c1 c2
  clear c1 c2
  have l1 : Loc h1 s.heap.objs.size [(Str.ofString "turned", .bool b), (Str.ofString "rows", .ref ax)] := Loc.of hns (List.forall_mem_cons.mpr ⟨rfl, List.forall_mem_cons.mpr ⟨rfl, fun _ h => nomatch h⟩⟩)
  clear hns
  have B1 := B.keeps fun b o e => U1 b o (by simp) e
  generalize hA : A.deeper _ = A'
  have hh' : A'.handled = none := by rw [← hA]; exact hh
  clear hA
  generalize hL : s.heap.objs.size = L at l1 ⊢
  have fL : s.heap.get? L = none := by rw [← hL]; exact get_none_size
  -- table = {6: set(), 7: set()}
  refine wpAny_execs_cons (wpAny_Assign_Name (wpAny_Dict_any rfl rfl (by simp) (by decide) ?_))
  have neD : L ≠ h1.objs.size := by obtain ⟨_, _, _, ho, _⟩ := l1.get; exact ne_size ho
  generalize hd0 : h1.objs.size = d at neD ⊢
  have fd : h1.get? d = none := by rw [← hd0]; exact get_none_size
  have hz : d ≠ sysModules := by rw [← hd0]; exact big B1
  generalize h2e : h1.push { cls := .type "dict", data := .dict #[] } = h2
  have u12 : Upto [] h1 h2 := by rw [← h2e]; exact Upto.push _
  have hd2 : h2.get? d = some { cls := .type "dict", data := .dict #[] } := by rw [← h2e, ← hd0]; exact Heap.get?_push_size _ rfl
  have T2 : Tb w h2 d "dict" #[] [] (fun _ => []) := dict_tb hd2 hz
  have B2 := B1.keeps fun b o e => u12 b o (by simp) e
  simp only [pairTrees, evalPairs]
  refine wpAny_bind (wpAny_Constant_int (wpAny_bind (wpAny_holding (wpAny_bind (callT0 (T := "set") (ldSet B2 ⟨rfl, call_set_led (wpAny_bind (wpAny_standAt (wpAny_pure ?_)))⟩))))))
  generalize ha0 : h2.objs.size = a6
  generalize h3e : h2.push (emptySet w) = h3
  have f6 : h2.get? a6 = none := by rw [← ha0]; exact get_none_size
  have ga6 : h3.get? a6 = some (emptySet w) := by rw [← h3e, ← ha0]; exact Heap.get?_push_size _ rfl
  have u23 : Upto [] h2 h3 := by rw [← h3e]; exact Upto.push _
  have B3 := B2.keeps fun b o e => u23 b o (by simp) e
  refine wpAny_bind (wpAny_holding (wpAny_bind (wpAny_Constant_int (wpAny_bind (wpAny_holding (wpAny_bind (callT0 (T := "set") (ldSet B3 ⟨rfl, call_set_led (wpAny_bind (wpAny_standAt (wpAny_pure ?_)))⟩))))))))
  dsimp only
  generalize ha1 : h3.objs.size = a7
  generalize h4e : h3.push (emptySet w) = h4
  have f7 : h3.get? a7 = none := by rw [← ha1]; exact get_none_size
  have ga7 : h4.get? a7 = some (emptySet w) := by rw [← h4e, ← ha1]; exact Heap.get?_push_size _ rfl
  have u34 : Upto [] h3 h4 := by rw [← h4e]; exact Upto.push _
  refine wpAny_bind (wpAny_holding (wpAny_pure (wpAny_pure (wpAny_pure ?_))))
  have ga6' := u34.at ga6 (by simp)
  have T4 : Tb w h4 d "dict" #[] [] (fun _ => []) := (T2.at u23 (by simp) (by simp)).at u34 (by simp) (by simp)
  have u14 : Upto [] h1 h4 := (u12.trans u23).trans u34
  obtain ⟨o6, ho6⟩ : ∃ o, h2.get? d = some o := ⟨_, hd2⟩
  have ne6 : d ≠ a6 := ne_of_none hd2 f6
  have ne7 : d ≠ a7 := ne_of_none (u23.at hd2 (by simp)) f7
  have ne67 : a6 ≠ a7 := ne_of_none ga6 f7
  unfold storeAll
  rw [List.forIn_cons]
  obtain ⟨ep4, D4⟩ := T4.dt
  refine wpAny_bind (wpAny_bind (dictSet_new (s := { s with heap := h4, toks := _ }) D4 rfl (by decide) fun h5 sb5 D5 => wpAny_pure ?_))
  dsimp only
  rw [List.forIn_cons]
  refine wpAny_bind (wpAny_bind (dictSet_new (s := { s with heap := h5, toks := _ }) D5 (by rfl) (by show (1 : Nat) < 100; decide) fun h6 sb6 D6 => wpAny_pure ?_))
  dsimp only
  rw [List.forIn_nil]
  refine wpAny_pure ?_
  have u45 : Upto [d] h4 h5 := Upto.same sb5 (.head _)
  have u56 : Upto [d] h5 h6 := Upto.same sb6 (.head _)
  have T5 : Tb w h5 d "dict" #[] [(6, a6)] (fun _ => []) := T4.fresh u45 D5 (by decide) (u45.at ga6' (by simpa using ne6.symm)) (fun p hp => absurd hp List.not_mem_nil) rfl (by decide)
  have T6 : Tb w h6 d "dict" #[] [(6, a6), (7, a7)] (fun _ => []) := T5.fresh u56 D6 (by decide) (u56.at (u45.at ga7 (by simpa using ne7.symm)) (by simpa using ne7.symm)) (fun p hp => by rw [List.mem_singleton.mp hp]; exact ne67) (by rfl) (by decide)
  have u16 : Upto [] h1 h6 := (u14.write u45 fun b hb => .inl (by rw [List.mem_singleton.mp hb]; exact fd)).write u56 fun b hb => .inl (by rw [List.mem_singleton.mp hb]; exact fd)
  refine stL (l1.at u16 (by simp)) fun h7 l7 sb7 => ?_
  dsimp only
  have u67 : Upto [L] h6 h7 := Upto.same sb7 (.head _)
  have u17 : Upto [L] h1 h7 := (u16.mono (by simp)).trans u67
  have l6 := l1.at u16 (by simp)
  have T7 : Tb w h7 d "dict" #[] [(6, a6), (7, a7)] (fun _ => []) := T6.at u67 (by simpa using neD.symm) (fun p hp => by simpa using T6.ne_loc l6 hp)
  have neaL : ax ≠ L := by obtain ⟨o, ho, _⟩ := hl; exact ne_of_none ho fL
  have hl1 : h1.IsList ax (rs.map Value.ref).toArray := let ⟨o, ho, r⟩ := hl; ⟨o, U1.at ho (by simp), r⟩
  have hl7 : h7.IsList ax (rs.map Value.ref).toArray := let ⟨o, ho, r⟩ := hl1; ⟨o, u17.at ho (by simpa using neaL), r⟩
  have ht1 : Tups h1 rs ps := ht.at U1 (by simp)
  have hrL : ∀ r, r ∈ rs → r ≠ L := fun r hr => by
    obtain ⟨p, tp⟩ := ht.mem hr
    obtain ⟨o, ho, _⟩ := tp.get
    exact ne_of_none ho fL
  -- for one, two in rows
  refine wpAny_execs_cons (wpAny_For (ldL l7 rfl (wpAny_pyIter_list hl7 ?_)))
  generalize hI : (({ s with heap := h7, toks := _ } : Shared).heap).objs.size = I
  have hI' : h7.objs.size = I := hI
  clear hI
  generalize hio : ({ cls := Value.type "list_iterator", data := Data.fields #[Value.ref ax, Value.int 0 0] } : Obj) = io
  have fI : h7.get? I = none := by rw [← hI']; exact get_none_size
  have h8I : (h7.push io).get? I = some io := by rw [← hI']; exact Heap.get?_push_size _ (by rw [← hio]; rfl)
  have neI : ax ≠ I := by obtain ⟨o, ho, _⟩ := hl7; exact ne_of_none ho fI
  have neDI : d ≠ I := by obtain ⟨o, ho, _⟩ := T7.get; exact ne_of_none ho fI
  have neLI : L ≠ I := by obtain ⟨o, _, _, ho, _⟩ := l7.get; exact ne_of_none ho fI
  have f1I : h1.get? I = none := by
    cases e : h1.get? I with
    | none => rfl
    | some o => exact absurd (u17 I o (by simpa using neLI.symm) e) (by rw [fI]; simp)
  have hp67 : ∀ p, p ∈ [((6 : Int), a6), (7, a7)] → h1.get? p.2 = none := fun p hp => by
    rcases List.mem_cons.mp hp with rfl | hp
    · exact none_of u12 f6
    · rw [List.mem_singleton.mp hp]; exact none_of (u12.trans u23) f7
  have base : ∀ h, Upto [L] h1 h → Base (KK w) h := fun h u => B.keeps fun b o e => u b o (by simpa using ne_of_none e fL) (U1 b o (by simp) e)
  let J : Nat → Heap → Prop := fun i h => Upto [L] h1 h ∧ Loc h L [(Str.ofString "turned", .bool b), (Str.ofString "table", .ref d)] ∧ ∃ m f, Tb w h d "dict" #[] m f ∧ (∀ p, p ∈ m → p.2 ≠ I ∧ h1.get? p.2 = none) ∧
    ∀ k x, x ∈ f k ↔ ∃ p, p ∈ ps.take i ∧ kvOf b p = (k, x)
  have U8 : Upto [] h7 (h7.push io) := Upto.push io
  refine for_walk (Walks.list hh' I ax neI _) (J := J) ⟨⟨io, h8I, by rw [← hio], by rw [← hio]; rfl⟩, let ⟨o, ho, r⟩ := hl7; ⟨o, U8.at ho (by simp), r⟩⟩
    ⟨u17.trans (U8.mono (by simp)), (l7.at U8 (by simp)).pick ⟨rfl, rfl, trivial⟩, _, _, T7.at U8 (by simp) (by simp), fun p hp => ⟨by obtain ⟨o, ho, _⟩ := T7.sets hp; exact ne_of_none ho fI, hp67 p hp⟩, fun k x => by simp⟩ ?_ ?_ ?_
  · rintro i h h' ⟨u, lo, m, f, T, hm, hf⟩ v
    exact ⟨u.write v fun b hb => .inl (by rw [List.mem_singleton.mp hb]; exact f1I), lo.at v (by simpa using neLI), m, f, T.at v (by simpa using neDI) (fun p hp => by simpa using (hm p hp).1), hm, hf⟩
  · rintro i v h9 tk9 hi hv hst ⟨u9, l9, m, f, T9, hm9, hf9⟩
    obtain ⟨r, hr, rfl⟩ : ∃ r, rs[i]? = some r ∧ v = .ref r := by
      simp only [List.getElem?_toArray, List.getElem?_map, Option.map_eq_some_iff] at hv
      obtain ⟨r, h1, h2⟩ := hv
      exact ⟨r, h1, h2.symm⟩
    obtain ⟨p, hp, tp⟩ := ht1.get hr
    have hrm := List.mem_of_getElem? hr
    obtain ⟨oi, hoi, hci, _⟩ := hst.1
    refine letOwn_pair hoi hci (by decide) ?_
    obtain ⟨t1, t2, htup⟩ := (tp.at u9 (by simpa using hrL r hrm)).tuple
    refine assign2 hh' htup l9 fun h10 tk10 l10 u10 => ?_
    have u10' : Upto [L] h9 h10 := u10
    replace l10 : Loc h10 L _ := l10
    have T10 : Tb w h10 d "dict" #[] m f := T9.at u10' (by simpa using neD.symm) (fun p hp => by simpa using T9.ne_loc l9 hp)
    have hpm := List.mem_of_getElem? hp
    have hkv := kv_small (b := b) (hs p hpm)
    -- key, value = ..
    refine wpAny_execs_cons (wpAny_mono (Q := fun fl s' => fl = .next ∧ ∃ h11 tk11 t3 t4, s' = { s with heap := h11, toks := tk11 } ∧
      Loc h11 L [(Str.ofString "value", .int (kvOf b p).2 t4), (Str.ofString "key", .int (kvOf b p).1 t3), (Str.ofString "turned", .bool b), (Str.ofString "table", .ref d)] ∧ Upto [L] h10 h11) ?_ (fun fl s' hm => ?_) (fun _ _ e => e))
    · refine wpAny_Assign_stores (wpAny_IfExp (wpAny_isTrue_value (ldL l10 rfl (wpAny_truthy_bool ?_)))) rfl rfl
      cases b
      · simp only [Bool.false_eq_true, ↓reduceIte]
        refine tuple2 (ldL l10 rfl (ldL l10 rfl ?_))
        show wpAny _ _ (assign (.Tuple _ 0 _) _ _) _ _ _
        refine assign2 hh' ⟨_, Heap.get?_push_size _ rfl, rfl, _, rfl⟩ (l10.at (Upto.push (xs := []) _) (by simp)) fun h11 tk11 l11 u11 => ⟨trivial, h11, tk11, _, _, rfl, l11.pick ⟨rfl, rfl, rfl, rfl, trivial⟩, (Upto.push _).trans u11⟩
      · simp only [↓reduceIte]
        refine tuple2 (ldL l10 rfl (ldL l10 rfl ?_))
        show wpAny _ _ (assign (.Tuple _ 0 _) _ _) _ _ _
        refine assign2 hh' ⟨_, Heap.get?_push_size _ rfl, rfl, _, rfl⟩ (l10.at (Upto.push (xs := []) _) (by simp)) fun h11 tk11 l11 u11 => ⟨trivial, h11, tk11, _, _, rfl, l11.pick ⟨rfl, rfl, rfl, rfl, trivial⟩, (Upto.push _).trans u11⟩
    obtain ⟨rfl, h11, tk11, t3, t4, rfl, l11, u11⟩ := hm
    dsimp only
    have T11 : Tb w h11 d "dict" #[] m f := T10.at u11 (by simpa using neD.symm) (fun p hp => by simpa using T10.ne_loc l10 hp)
    have U11 : Upto [L] h1 h11 := (u9.trans u10').trans u11
    obtain ⟨ep11, D11⟩ := T11.dt
    have hmI := hm9
    -- if key not in table
    refine wpAny_execs_cons (wpAny_mono (Q := fun fl s' => fl = .next ∧ ∃ h12 tk12 m' a, s' = { s with heap := h12, toks := tk12 } ∧ Upto [d] h11 h12 ∧
      Tb w h12 d "dict" #[] m' f ∧ (∀ p, p ∈ m' → p.2 ≠ I ∧ h1.get? p.2 = none) ∧ look m' (kvOf b p).1 = some a) ?_ (fun fl s' hm => ?_) (fun _ _ e => e))
    · refine wpAny_If (wpAny_isTrue_Compare1 (ldL l11 rfl (ldL l11 rfl (notIn_dict D11 (wpAny_truthy_bool ?_)))))
      cases hlk : look m (kvOf b p).1 with
      | some a =>
        simp only [Option.isNone_some, Bool.false_eq_true, ↓reduceIte]
        exact wpAny_execs_nil ⟨rfl, h11, _, m, a, rfl, Upto.refl _ _, T11, hm9, hlk⟩
      | none =>
        simp only [Option.isNone_none, ↓reduceIte]
        have fn : h11.get? h11.objs.size = none := get_none_size
        have uP : Upto [] h11 (h11.push (emptySet w)) := Upto.push _
        have D11' := D11.at uP (by simp)
        have T11' := T11.at uP (by simp) (by simp)
        refine wpAny_execs_cons (wpAny_Assign_Subscript (callT0 (T := "set") (ldSet (base _ U11) ⟨rfl, call_set_led (ldL (l11.at uP (by simp)) rfl (ldL (l11.at uP (by simp)) rfl (setItem_new D11' hlk (by have := T11.len; omega) fun h12 tk12 sb12 D12 => wpAny_execs_nil ?_)))⟩)))
        have ud : Upto [d] (h11.push (emptySet w)) h12 := Upto.same sb12 (.head _)
        obtain ⟨od, hod, _⟩ := T11.get
        refine ⟨rfl, h12, tk12, _, h11.objs.size, rfl, (Upto.push _).trans ud, T11'.fresh ud D12 (by decide) (ud.at (Heap.get?_push_size _ rfl) (by simpa using (ne_of_none hod fn).symm)) (fun p hp => by obtain ⟨o, ho, _⟩ := T11.sets hp; exact ne_of_none ho fn) hlk (six_eight hkv.1), fun p hp => ?_, ?_⟩
        · rcases List.mem_append.mp hp with q | q
          · exact hm9 p q
          · rw [List.mem_singleton.mp q]
            have h11I : ∃ o, h11.get? I = some o := by
              obtain ⟨oi', hoi', _⟩ := hst.1
              exact ⟨_, u11.at (u10'.at hoi' (by simpa using neLI.symm)) (by simpa using neLI.symm)⟩
            obtain ⟨oI, hoI⟩ := h11I
            refine ⟨(ne_of_none hoI fn).symm, U11.none_size fun b hb => ?_⟩
            rw [List.mem_singleton.mp hb]
            obtain ⟨o, _, _, ho, _⟩ := l11.get
            exact ⟨o, ho⟩
        · exact look_of D12.nodup (List.mem_append_right _ (List.mem_singleton.mpr rfl))
    obtain ⟨rfl, h12, tk12, m', a, rfl, u12', T12, hm12, hlk⟩ := hm
    dsimp only
    have l12 := l11.at u12' (by simpa using neD)
    obtain ⟨ep12, D12⟩ := T12.dt
    have ham := look_mem hlk
    have hSa := T12.set _ ham
    -- table[key].add(value)
    refine wpAny_execs_cons (wpAny_Expr (meth1 (wpAny_Subscript_Name (T := "dict") (id := "dict.__getitem__") slot_dict_getitem.lookup (ldL l12 rfl (ldL l12 rfl ⟨D12.type, getItem_hit D12 hlk ?_⟩)))))
    refine ⟨"set", "set.add", PySem.F.plainAttrs_set, PySem.F.slot_set_add, PySem.F.type_set_add, hSa.type, hSa.noDict, ldL l12 rfl (call_add hSa hkv.2 fun h13 l13 sb13 S13 m13 => wpAny_execs_nil ?_)⟩
    have u13 : Upto [a] h12 h13 := Upto.same sb13 (.head _)
    have neaa : L ≠ a := (T12.ne_loc l12 ham).symm
    have haI := hm12 _ ham
    have hax12 : h12.IsList ax (rs.map Value.ref).toArray := let ⟨o, ho, r⟩ := hl1; ⟨o, u12'.at (U11.at ho (by simpa using neaL)) (by simpa using ne_of_none ho fd), r⟩
    refine ⟨h13, _, rfl, ⟨(U11.write u12' fun b hb => .inl (by rw [List.mem_singleton.mp hb]; exact fd)).write u13 fun b hb => .inl (by rw [List.mem_singleton.mp hb]; exact haI.2), (l12.at u13 (by simpa using neaa)).pick ⟨rfl, rfl, trivial⟩,
      m', _, T12.grow (by decide) hlk sb13 S13, hm12, fun k x => ?_⟩, fun bb hb o e => ?_⟩
    · have hkx : ∀ k x, (k = (kvOf b p).1 ∧ x = (kvOf b p).2) ↔ kvOf b p = (k, x) := fun k x => ⟨fun ⟨a, b⟩ => by rw [a, b], fun e => by rw [e]; exact ⟨rfl, rfl⟩⟩
      show (x ∈ if k = (kvOf b p).1 then l13 else f k) ↔ _
      constructor
      · intro hx
        split at hx
        · rename_i hk
          rcases (m13 x).mp hx with q | q
          · subst hk
            obtain ⟨p', hp', e⟩ := (hf9 _ _).mp q
            exact ⟨p', (mem_take_succ hp).mpr (.inl hp'), e⟩
          · exact ⟨p, (mem_take_succ hp).mpr (.inr rfl), (hkx k x).mp ⟨hk, q⟩⟩
        · obtain ⟨p', hp', e⟩ := (hf9 _ _).mp hx
          exact ⟨p', (mem_take_succ hp).mpr (.inl hp'), e⟩
      · rintro ⟨p', hp', e⟩
        rcases (mem_take_succ hp).mp hp' with q | q
        · have := (hf9 k x).mpr ⟨p', q, e⟩
          split
          · rename_i hk; subst hk; exact (m13 x).mpr (.inl this)
          · exact this
        · subst q
          obtain ⟨e1, e2⟩ := (hkx k x).mpr e
          rw [if_pos e1]
          exact (m13 x).mpr (.inr e2)
    · have hbL : bb ≠ L := by
        rcases List.mem_cons.mp hb with rfl | hb
        · exact neLI.symm
        · rw [List.mem_singleton.mp hb]; exact neaL
      have hbd : bb ≠ d := by
        rcases List.mem_cons.mp hb with rfl | hb
        · exact neDI.symm
        · rw [List.mem_singleton.mp hb]; obtain ⟨o, ho, _⟩ := hl1; exact ne_of_none ho fd
      have hba : bb ≠ a := by
        rcases List.mem_cons.mp hb with rfl | hb
        · exact haI.1.symm
        · rw [List.mem_singleton.mp hb]; exact (hSa.ne_list hax12).symm
      exact u13 bb o (by simpa using hba) (u12' bb o (by simpa using hbd) (u11 bb o (by simpa using hbL) (u10' bb o (by simpa using hbL) e)))
  · rintro h' tk' ⟨u, lo, m, f, T, hm, hf⟩
    refine wpAny_execs_nil ?_
    refine wpAny_execs_cons (wpAny_Return_some (ldL lo rfl ?_))
    refine h h' tk' d m f (fun b o hb e => u b o (by simpa using ne_of_none e fL) (U1 b o (by simp) e)) (none_of U1 fd) T fun k x => ?_
    rw [hf, List.take_of_length_le (by simp [ht.length])]
end
end Mine
end

section
open PySem PySem.W PySem.Calls PyProof.Rows
set_option Elab.async false
set_option maxRecDepth 100000
namespace Mine
section
variable {prog : Program} {w : World} {A : Around} {E : Value → Shared → Prop} {s : Shared} {a I S : Addr} {fp wr : List Addr} {n : Nat} {P : Nat → Value → Prop} {St : Nat → Heap → Prop} {R : Result → Shared → Prop}

theorem extend_walk (W : Walks prog w A.in1 I fp wr n P St) (hn : n ≤ 1000) (hSf : S ∉ fp) (res : Value) :
    ∀ (k i : Nat) (s : Shared) (acc : Array Value) (c : Nat), n - i = k → i ≤ n → St i s.heap → s.heap.get? S = some (seqObj "list" acc c) → ItemsOf P acc i →
    (∀ (h' : Heap) (tk : Nat) (acc' : Array Value) (c' : Nat), Upto (S :: wr) s.heap h' → h'.get? S = some (seqObj "list" acc' c') → ItemsOf P acc' n → R (.ok (.ret res)) { s with heap := h', toks := tk }) →
    codeAny (model prog w) A (.builtin "list.extend.loop" ⟨[.ref S, .ref I, res], []⟩) R s := by
  have hSw : S ∉ wr := fun h => hSf (W.sub _ h)
  intro k
  induction k with
  | zero =>
    intro i s acc c hk hi hst hS hacc hR
    have hin : i = n := by omega
    subst hin
    refine codeAny_builtin PySem.F.entry_extend_loop ?_
    rw [Around.under_plainId PySem.F.plain_extend_loop _]
    show wpAny _ A.in1 (pyNext (.ref I) >>= _) _ _ s
    refine wpAny_bind (W.done s _ _ hst fun h' tk hk' => ?_)
    exact wpAny_pure (hR h' tk acc c (fun b o hb e => hk' b o (fun q => hb (.tail _ q)) e) (hk' S _ hSw hS) hacc)
  | succ k ih =>
    intro i s acc c hk hi hst hS hacc hR
    have hlt : i < n := by omega
    refine codeAny_builtin PySem.F.entry_extend_loop ?_
    rw [Around.under_plainId PySem.F.plain_extend_loop _]
    show wpAny _ A.in1 (pyNext (.ref I) >>= _) _ _ s
    refine wpAny_bind (W.item i s _ _ hlt hst fun v h1 tk1 hP hst1 hk1 => ?_)
    have hS1 := hk1 S _ hSw hS
    show wpAny _ A.in1 (updateSeq S (·.push v) >>= _) _ _ _
    have hz : acc.size ≤ 1000 := by rw [hacc.1]; omega
    have hS2 := get?_update_seq hS1 (·.push v)
    have sb := Heap.SameBut.update h1 S (Obj.mapSeq (·.push v))
    refine wpAny_bind (wpAny_updateSeq hS1 rfl (wpAny_pure ⟨plainId_quiet PySem.F.plain_extend_loop _, ih (i + 1) _ (acc.push v) _ (by omega) hlt (W.frame _ _ _ hst1 fun b hb o e => ?_) hS2 (hacc.push hP) fun h3 tk3 acc3 c3 u3 hS3 i3 => ?_⟩)
      (by rw [sizeLine_eq]; omega) (by show (acc.push v).size ≤ sizeLine + 1; rw [Array.size_push, sizeLine_eq]; omega))
    · rw [sb.2 b (fun q => hSf (by rw [← q]; exact hb))]; exact e
    · refine hR h3 tk3 acc3 c3 (fun b o hb e => u3 b o hb ?_) hS3 i3
      rw [sb.2 b (fun q => hb (by rw [q]; exact .head _))]
      exact hk1 b o (fun q => hb (.tail _ q)) e

theorem items_eq {α : Type} {xs : List α} {f : α → Value} {acc : Array Value} {n : Nat} (hn : n = xs.length) (h : ItemsOf (fun i v => ∃ x, xs[i]? = some x ∧ v = f x) acc n) : acc.toList = xs.map f := by
  apply List.ext_getElem
  · rw [Array.length_toList, h.1, hn, List.length_map]
  · intro i h1 h2
    obtain ⟨x, hx, e⟩ := h.2 i acc.toList[i] (by rw [← Array.getElem?_toList]; exact List.getElem?_eq_getElem h1)
    rw [e, List.getElem_map]
    rw [List.length_map] at h2
    rw [List.getElem?_eq_getElem h2] at hx
    cases hx
    rfl

theorem split_set_len : splitId "set.__len__" = some ("set", "__len__") := by decide +kernel

/-- what a set hands out when it is walked whole -/
theorem collect_setO {es : Array (Int × Value)} {ep : Nat} {t : SetTable} {Q : List Value → Shared → Prop} (ho : s.heap.get? a = some (setO es ep t)) (W : WOk w es t) (hq : Quiet A s.heap) (hsz : es.size ≤ 1000)
    (h : ∀ h' tk, Upto [] s.heap h' → Q ((ordE w a ep es).toList.map (·.2)) { s with heap := h', toks := tk }) : wpAny (model prog w) A (collect (.ref a)) Q E s := by
  unfold collect
  refine wpAny_bind (wpAny_runValue (codeAny_builtin PySem.F.entry_proto_collect ?_))
  rw [Around.under_plainId PySem.F.plain_proto_collect _]
  show wpAny _ A.in1 (newList [] >>= fun l => again (.builtin "list.__iadd__" ⟨[l, .ref a], []⟩)) _ _ s
  refine wpAny_bind (wpAny_newObj_type ?_)
  refine wpAny_pure ⟨plainId_quiet PySem.F.plain_list_iadd _, codeAny_builtin PySem.F.entry_list_iadd ?_⟩
  rw [Around.under_plainId PySem.F.plain_list_iadd _]
  generalize hS0 : s.heap.objs.size = S
  generalize hh1 : s.heap.push { cls := .type "list", dict := none, data := .seq ([] : List Value).toArray } = h1
  have fS : s.heap.get? S = none := by rw [← hS0]; exact get_none_size
  have gS : h1.get? S = some (seqObj "list" #[] 0) := by rw [← hh1, ← hS0]; exact Heap.get?_push_size _ rfl
  have u1 : Upto [] s.heap h1 := by rw [← hh1]; exact Upto.push _
  have ho1 := u1.at ho (by simp)
  have neS : a ≠ S := ne_of_none ho fS
  show wpAny _ A.in1 (Builtin.List.listExtendWith (.ref S) (.ref a) (.ref S)) _ _ _
  unfold Builtin.List.listExtendWith
  have hT : Shared.TypeIs { s with heap := h1 } (.ref a) "set" := ⟨_, ho1, rfl⟩
  refine wpAny_bind (wpAny_typeOf hT ?_)
  have c1 : Builtin.List.listSameRef (.ref S) (.ref a) = false := by simp [Builtin.List.listSameRef, neS.symm]
  have c2 : (Value.type "set" == Value.type "list") = false := by decide
  have c3 : (Value.type "set" == Value.type "tuple") = false := by decide
  simp only [c1, c2, c3, Bool.or_false, Bool.false_eq_true, if_false]
  refine wpAny_bind (pyIter_set (s := { s with heap := h1 }) ho1 W ?_)
  dsimp only
  generalize hI0 : h1.objs.size = I
  generalize hh2 : h1.push (iterO w a es.size ep t 0) = h2
  have fI : h1.get? I = none := by rw [← hI0]; exact get_none_size
  have gI : h2.get? I = some (iterO w a es.size ep t 0) := by rw [← hh2, ← hI0]; exact Heap.get?_push_size _ rfl
  have u2 : Upto [] h1 h2 := by rw [← hh2]; exact Upto.push _
  have ho2 := u2.at ho1 (by simp)
  have gS2 := u2.at gS (by simp)
  have neI : a ≠ I := ne_of_none ho1 fI
  have neSI : S ≠ I := ne_of_none gS fI
  have hT2 : Shared.TypeIs { s with heap := h2 } (.ref a) "set" := ⟨_, ho2, rfl⟩
  refine wpAny_bind (wpAny_holding ?_)
  unfold Builtin.List.listLengthHint
  refine wpAny_bind (wpAny_specialOf hT2 PySem.F.slot_set_len.lookup ?_)
  generalize hid : ("set.__len__" : String) = id0
  wp_delta
  rw [show splitId id0 = some ("set", "__len__") from by subst hid; exact split_set_len]
  subst hid
  refine wpAny_bind (wpAny_isInstance (b := true) hT2 sub_set_self ?_)
  rw [if_neg (by decide)]
  dsimp only
  rw [if_pos (by decide +kernel)]
  refine wpAny_bind (wpAny_typeOf hT2 ?_)
  dsimp only
  refine wpAny_pure ?_
  rw [if_pos (by decide +kernel)]
  refine wpAny_bind (wpAny_rule (wpAny_bind ?_))
  show wpAny _ A.in1 (updateSeq S (·.push .none) >>= fun _ => updateSeq S (·.pop)) _ _ _
  refine wpAny_bind (wpAny_updateSeq gS2 rfl ?_)
  have gS3 := get?_update_seq gS2 (·.push Value.none)
  refine wpAny_updateSeq gS3 rfl ?_
  have gS4 := get?_update_seq gS3 (·.pop)
  generalize hh4 : (h2.update S (Obj.mapSeq (·.push Value.none))).update S (Obj.mapSeq (·.pop)) = h4 at gS4
  have sb4 : Heap.SameBut S h2 h4 := by rw [← hh4]; exact (Heap.SameBut.update ..).trans (Heap.SameBut.update ..)
  have u4 : Upto [S] h2 h4 := Upto.same sb4 (.head _)
  have ho4 := u4.at ho2 (by simpa using neS)
  have gI4 := u4.at gI (by simpa using neSI.symm)
  have hq4 : Quiet A h4 := hq.on fun b hb o e => u4 b o (by simpa using ne_of_none e fS) (u2 b o (by simp) (u1 b o (by simp) e))
  have hSf : S ∉ I :: a :: qfp A := by
    simp only [List.mem_cons, not_or]
    refine ⟨neSI, neS.symm, fun hm => ?_⟩
    rcases hq with q | ⟨x, o, vs, q, hx, _⟩
    · rw [qfp_none q] at hm; exact absurd hm List.not_mem_nil
    · have : S = x := by simpa [qfp, q] using hm
      rw [this] at fS; rw [fS] at hx; cases hx
  have hW := setWalks (prog := prog) (A := A.in1) (ep := ep) W neI
  refine wpAny_pure ⟨plainId_quiet PySem.F.plain_extend_loop _, extend_walk hW hsz hSf _ _ 0 { s with heap := h4 } _ _ rfl (Nat.zero_le _) ⟨gI4, ho4, hq4⟩ gS4 (ItemsOf.nil _) fun h5 tk5 acc c u5 hS5 ia => ?_⟩
  show wpAny _ A (load S >>= _) _ _ _
  refine wpAny_bind (wpAny_load hS5 ?_)
  have ha : acc.toList = (ordE w a ep es).toList.map (·.2) := items_eq (xs := (ordE w a ep es).toList) (f := (·.2)) (by rw [Array.length_toList, ordE_size]) ⟨ia.1, fun j v hv => by
    obtain ⟨x, hx, e⟩ := ia.2 j v hv
    exact ⟨x, by rw [Array.getElem?_toList]; exact hx, e⟩⟩
  show wpAny _ _ (pure acc.toList) _ _ _
  rw [ha]
  refine wpAny_pure (h h5 tk5 fun b o hb e => ?_)
  have hbS : b ≠ S := ne_of_none e fS
  have hbI : b ≠ I := ne_of_none (u1 b o (by simp) e) fI
  exact u5 b o (by simp [hbS, hbI]) (u4 b o (by simpa using hbS) (u2 b o (by simp) (u1 b o (by simp) e)))
end
end Mine
end

section
open PySem PySem.W PySem.Calls PyProof.Rows
set_option Elab.async false
set_option maxRecDepth 100000
namespace Mine

def kc (c : Value → Int) (xs : Array Keyed) (i : Nat) : Int := match xs[i]? with | some p => c p.1 | none => 0
theorem kc_congr {c : Value → Int} {xs ys : Array Keyed} {i j : Nat} (e : xs[i]? = ys[j]?) : kc c xs i = kc c ys j := by unfold kc; rw [e]
structure SB (κ : SortKind) (a₀ : Array Keyed) (st : SortSt) : Prop where
  perm : (arrOf st).Perm a₀
  kind : kindOf st = κ
  failed : failedOf st = none
  pend : pendingOf st = #[]
/-- rising up to n -/
def Up (c : Value → Int) (xs : Array Keyed) (n : Nat) : Prop := ∀ i j, i < j → j < n → kc c xs i < kc c xs j
/-- falling up to n -/
def Down (c : Value → Int) (xs : Array Keyed) (n : Nat) : Prop := ∀ i j, i < j → j < n → kc c xs j < kc c xs i

section
variable {prog : Program} {w : World} {A : Around} {E : Value → Shared → Prop} {s : Shared} {c : Value → Int} {κ : SortKind} {a₀ : Array Keyed}

def LT (prog : Program) (w : World) (A : Around) (s : Shared) (c : Value → Int) (κ : SortKind) (a₀ : Array Keyed) : Prop :=
  ∀ p, p ∈ a₀.toList → ∀ q, q ∈ a₀.toList → ∀ (Q : Bool → Shared → Prop) (E : Value → Shared → Prop), Q (decide (c p.1 < c q.1)) s → wpAny (model prog w) A (keyLt' κ p.1 q.1) Q E s

theorem SB.size {st : SortSt} (h : SB κ a₀ st) : (arrOf st).size = a₀.size := h.perm.size_eq
theorem SB.arr {st : SortSt} (h : SB κ a₀ st) {xs : Array Keyed} (hp : xs.Perm (arrOf st)) : SB κ a₀ (setArr st xs) := ⟨hp.trans h.perm, h.kind, h.failed, h.pend⟩
theorem SB.item {st : SortSt} (h : SB κ a₀ st) {i : Nat} (hi : i < a₀.size) : ∃ p, (arrOf st)[i]? = some p ∧ p ∈ a₀.toList ∧ kc c (arrOf st) i = c p.1 := by
  have hi' : i < (arrOf st).size := by rw [h.size]; exact hi
  have e : (arrOf st)[i]? = some (arrOf st)[i] := getElem?_pos _ i hi'
  exact ⟨_, e, (Array.perm_iff_toList_perm.mp h.perm).mem_iff.mp (by simp), by unfold kc; rw [e]⟩
theorem SB.ne {st : SortSt} (h : SB κ a₀ st) (hD : (a₀.toList.map fun p => c p.1).Nodup) {i j : Nat} (hi : i < a₀.size) (hj : j < a₀.size) (hne : i ≠ j) : kc c (arrOf st) i ≠ kc c (arrOf st) j := by
  have hp : ((arrOf st).toList.map fun p => c p.1).Nodup := ((Array.perm_iff_toList_perm.mp h.perm).map _).nodup_iff.mpr hD
  have hi' : i < (arrOf st).size := by rw [h.size]; exact hi
  have hj' : j < (arrOf st).size := by rw [h.size]; exact hj
  have e1 : kc c (arrOf st) i = c (arrOf st)[i].1 := by unfold kc; rw [getElem?_pos _ i hi']
  have e2 : kc c (arrOf st) j = c (arrOf st)[j].1 := by unfold kc; rw [getElem?_pos _ j hj']
  rw [e1, e2]
  have key := List.pairwise_iff_getElem.mp hp
  rcases Nat.lt_or_gt_of_ne hne with q | q
  · have := key i j (by simpa using hi') (by simpa using hj') q
    simpa using this
  · have := key j i (by simpa using hj') (by simpa using hi') q
    simpa using fun e => this (by simpa using e.symm)

theorem lt_at (hL : LT prog w A s c κ a₀) {st : SortSt} {i j : Nat} {Q : Option Bool → SortSt → Prop} (hB : SB κ a₀ st) (hi : i < a₀.size) (hj : j < a₀.size) (h : Q (some (decide (kc c (arrOf st) i < kc c (arrOf st) j))) st) :
    wpS (model prog w) A E s (ltAt' i j) Q st := by
  obtain ⟨p, e1, hp, k1⟩ := hB.item (c := c) hi
  obtain ⟨q, e2, hq, k2⟩ := hB.item (c := c) hj
  rw [k1, k2] at h
  rw [ltAt'_eq]
  refine wpS_bind (wpS_get ?_)
  show wpS _ _ _ _ (do let x ← elem' (arrOf st) i; let y ← elem' (arrOf st) j; lt' x y) Q st
  rw [elem'_eq, elem'_eq, e1, e2]
  refine wpS_bind (wpS_pure (wpS_bind (wpS_pure ?_)))
  rw [lt'_eq]
  refine wpS_bind (wpS_get ?_)
  rw [hB.kind]
  refine wpS_bind (wpS_lift (wpAny_attempt (hL p hp q hq _ _ ⟨rfl, ?_⟩)))
  exact wpS_pure h

theorem asc_loop (hL : LT prog w A s c κ a₀) (hD : (a₀.toList.map fun p => c p.1).Nodup) {st : SortSt} {a n : Nat} {Q : AscSt → SortSt → Prop} (hB : SB κ a₀ st) (hn : n ≤ a₀.size) (ha : 1 ≤ a) (han : a ≤ n) (hs : Up c (arrOf st) a)
    (h : ∀ m, a ≤ m → m ≤ n → Up c (arrOf st) m → (m = n ∨ kc c (arrOf st) m < kc c (arrOf st) (m - 1)) → Q (none, m) st) : wpS (model prog w) A E s (ascLoop a n) Q st := by
  unfold ascLoop
  refine wpS_forRange (I := fun x r st' => st' = st ∧ r = (none, x) ∧ Up c (arrOf st) x) ?_ ?_ ⟨rfl, rfl, hs⟩
  · rintro x r st' hax hxn ⟨rfl, rfl, hs'⟩
    refine wpS_bind (lt_at hL hB (by omega) (by omega) ?_)
    by_cases hlt : kc c (arrOf st') x < kc c (arrOf st') (x - 1)
    · rw [decide_eq_true hlt]
      exact wpS_pure (h x hax (by omega) hs' (.inr hlt))
    · rw [decide_eq_false hlt]
      have hne := hB.ne hD (i := x) (j := x - 1) (by omega) (by omega) (by omega)
      refine wpS_pure ⟨rfl, rfl, fun i j hij hj => ?_⟩
      rcases Nat.lt_or_ge j x with q | q
      · exact hs' i j hij q
      · have : j = x := by omega
        subst this
        have h1 : kc c (arrOf st') (j - 1) < kc c (arrOf st') j := by omega
        rcases Nat.lt_or_ge i (j - 1) with q | q
        · exact Int.lt_trans (hs' i (j - 1) q (by omega)) h1
        · have : i = j - 1 := by omega
          rw [this]; exact h1
  · rintro r st' ⟨rfl, rfl, hs'⟩
    rw [Nat.max_eq_right han] at hs' ⊢
    exact h n han (Nat.le_refl _) hs' (.inl rfl)

theorem tail_loop (hL : LT prog w A s c κ a₀) (hD : (a₀.toList.map fun p => c p.1).Nodup) {st : SortSt} {m n : Nat} {Q : Option Nat → SortSt → Prop} (hB : SB κ a₀ st) (hn : n ≤ a₀.size) (hm : 1 ≤ m) (hmn : m ≤ n) (hs : Down c (arrOf st) m)
    (h : ∀ k st', SB κ a₀ st' → 1 ≤ k → k ≤ n → Up c (arrOf st') k → Q (some k) st') : wpS (model prog w) A E s (tail3 m n) Q st := by
  unfold tail3
  have hsz : m ≤ (arrOf st).size := by rw [hB.size]; omega
  refine wpS_bind (wpS_reverse ?_)
  have hB' : SB κ a₀ (setArr st (mirror (arrOf st) 0 m ((m - 0) / 2))) := hB.arr (mirror_perm _ _ _ _)
  have hk : ∀ i, i < m → kc c (mirror (arrOf st) 0 m ((m - 0) / 2)) i = kc c (arrOf st) (0 + m - 1 - i) := fun i hi => kc_congr (by rw [getElem?_mirror_all hsz, if_pos (by omega)])
  refine wpS_bind (asc_loop hL hD hB' hn hm hmn (fun i j hij hj => ?_) fun k hk1 hk2 hs' _ => wpS_pure (h k _ hB' (by omega) hk2 hs'))
  show kc c (mirror (arrOf st) 0 m ((m - 0) / 2)) i < kc c (mirror (arrOf st) 0 m ((m - 0) / 2)) j
  rw [hk i (by omega), hk j hj]
  exact hs _ _ (by omega) (by omega)

theorem desc_part (hL : LT prog w A s c κ a₀) (hD : (a₀.toList.map fun p => c p.1).Nodup) {st : SortSt} {n : Nat} {Q : Option Nat → SortSt → Prop} (hB : SB κ a₀ st) (hn : n ≤ a₀.size) (h2 : 2 ≤ n) (hs : kc c (arrOf st) 1 < kc c (arrOf st) 0)
    (h : ∀ k st', SB κ a₀ st' → 1 ≤ k → k ≤ n → Up c (arrOf st') k → Q (some k) st') : wpS (model prog w) A E s (descPart 1 n) Q st := by
  unfold descPart
  refine wpS_bind (wpS_lift (wpAny_rule ⟨rfl, ?_⟩))
  refine wpS_bind (Q := Q) ?_
  unfold descLoop
  refine wpS_forRange (I := fun x r st' => st' = st ∧ r = (none, x, 0) ∧ Down c (arrOf st) x) ?_ ?_ ⟨rfl, rfl, fun i j hij hj => ?_⟩
  · rintro x r st' hax hxn ⟨rfl, rfl, hs'⟩
    dsimp only
    refine wpS_bind (lt_at hL hB (by omega) (by omega) ?_)
    by_cases hlt : kc c (arrOf st') x < kc c (arrOf st') (x - 1)
    · rw [decide_eq_true hlt]
      simp only [↓reduceIte, Nat.lt_irrefl, gt_iff_lt]
      refine wpS_pure ⟨rfl, rfl, fun i j hij hj => ?_⟩
      rcases Nat.lt_or_ge j x with q | q
      · exact hs' i j hij q
      · have : j = x := by omega
        subst this
        rcases Nat.lt_or_ge i (j - 1) with q | q
        · exact Int.lt_trans hlt (hs' i (j - 1) q (by omega))
        · have : i = j - 1 := by omega
          rw [this]; exact hlt
    · rw [decide_eq_false hlt]
      have hne := hB.ne hD (i := x) (j := x - 1) (by omega) (by omega) (by omega)
      simp only [Bool.false_eq_true, ↓reduceIte]
      refine wpS_bind (lt_at hL hB (by omega) (by omega) ?_)
      rw [decide_eq_true (show kc c (arrOf st') (x - 1) < kc c (arrOf st') x by omega)]
      simp only [↓reduceIte]
      refine wpS_pure ?_
      simp only [Nat.lt_irrefl, gt_iff_lt, ↓reduceIte]
      exact tail_loop hL hD hB hn (by omega) (by omega) hs' h
  · rintro r st' ⟨rfl, rfl, hs'⟩
    rw [Nat.max_eq_right (by omega : 1 + 1 ≤ n)] at hs' ⊢
    simp only [Nat.lt_irrefl, gt_iff_lt, ↓reduceIte]
    exact tail_loop hL hD hB hn (by omega) (Nat.le_refl _) hs' h
  · have : i = 0 := by omega
    have : j = 1 := by omega
    subst i j
    exact hs

theorem count_run (hL : LT prog w A s c κ a₀) (hD : (a₀.toList.map fun p => c p.1).Nodup) {st : SortSt} {n : Nat} {Q : Option Nat → SortSt → Prop} (hB : SB κ a₀ st) (hn : n ≤ a₀.size) (h1 : 1 ≤ n)
    (h : ∀ k st', SB κ a₀ st' → 1 ≤ k → k ≤ n → Up c (arrOf st') k → Q (some k) st') : wpS (model prog w) A E s (countRun' 0 n) Q st := by
  rw [countRun0_eq]
  refine wpS_bind (asc_loop hL hD hB hn (Nat.le_refl 1) h1 (fun i j hij hj => by omega) fun m hm1 hm2 hs hor => ?_)
  dsimp only
  by_cases hmn : m = n
  · rw [if_pos (by simpa using hmn)]
    exact wpS_pure (h m st hB hm1 hm2 hs)
  · rw [if_neg (by simpa using hmn)]
    have hlt := hor.resolve_left hmn
    by_cases hg : m > 1
    · rw [if_pos hg]
      refine wpS_bind (lt_at hL hB (by omega) (by omega) ?_)
      rw [decide_eq_true (hs 0 (m - 1) (by omega) (by omega))]
      exact wpS_pure (h m st hB hm1 hm2 hs)
    · rw [if_neg hg]
      have : m = 1 := by omega
      subst this
      exact desc_part hL hD hB hn (by omega) hlt h

theorem bin_sort (hL : LT prog w A s c κ a₀) (hD : (a₀.toList.map fun p => c p.1).Nodup) {st : SortSt} {n ok : Nat} {Q : Bool → SortSt → Prop} (hB : SB κ a₀ st) (hn : n ≤ a₀.size) (h1 : 1 ≤ ok) (hok : ok ≤ n) (hs : Up c (arrOf st) ok)
    (h : ∀ st', SB κ a₀ st' → Up c (arrOf st') n → Q true st') : wpS (model prog w) A E s (binarySort' 0 n ok) Q st := by
  rw [binarySort'_eq]
  simp only [Nat.zero_add]
  refine wpS_bind (wpS_mono (wpS_forRange (I := fun k r st' => r = (none, ()) ∧ SB κ a₀ st' ∧ Up c (arrOf st') k) (Q := fun r st' => r = (none, ()) ∧ SB κ a₀ st' ∧ Up c (arrOf st') n) ?_ ?_
    ⟨rfl, hB, by rw [Nat.max_eq_left h1]; exact hs⟩) ?_)
  · rintro k r st' hak hkn ⟨rfl, hB', hs'⟩
    refine wpS_bind (wpS_mono (wpS_forRange (I := fun x r st'' => st'' = st' ∧ ∃ lo hi, r = (none, lo, hi) ∧ lo ≤ hi ∧ hi ≤ k ∧ hi - lo ≤ k - x ∧
        (∀ i, i < lo → kc c (arrOf st') i < kc c (arrOf st') k) ∧ ∀ i, hi ≤ i → i < k → kc c (arrOf st') k < kc c (arrOf st') i)
      (Q := fun r st'' => st'' = st' ∧ ∃ lo hi, r = (none, lo, hi) ∧ lo ≤ k ∧ (∀ i, i < lo → kc c (arrOf st') i < kc c (arrOf st') k) ∧ ∀ i, lo ≤ i → i < k → kc c (arrOf st') k < kc c (arrOf st') i)
      ?_ ?_ ⟨rfl, 0, k, rfl, Nat.zero_le _, Nat.le_refl _, Nat.le_refl _, fun i hi => absurd hi (Nat.not_lt_zero _), fun i h1 h2 => by omega⟩) ?_)
    · rintro x r st'' _ hxk ⟨rfl, lo, hi, rfl, hlh, hhk, hm, hlo, hhi⟩
      dsimp only
      by_cases hge : lo ≥ hi
      · rw [if_pos hge]
        have : lo = hi := by omega
        subst this
        exact wpS_pure ⟨rfl, lo, lo, rfl, hhk, hlo, hhi⟩
      · rw [if_neg hge]
        refine wpS_bind (lt_at hL hB' (by omega) (by omega) ?_)
        have hne := hB'.ne hD (i := k) (j := (lo + hi) / 2) (by omega) (by omega) (by omega)
        have below : ∀ i, i < (lo + hi) / 2 → kc c (arrOf st'') i < kc c (arrOf st'') ((lo + hi) / 2) := fun i hi' => hs' _ _ hi' (by omega)
        have above : ∀ i, (lo + hi) / 2 < i → i < k → kc c (arrOf st'') ((lo + hi) / 2) < kc c (arrOf st'') i := fun i h1 h2 => hs' _ _ h1 h2
        by_cases hlt : kc c (arrOf st'') k < kc c (arrOf st'') ((lo + hi) / 2)
        · rw [decide_eq_true hlt]
          simp only [↓reduceIte]
          refine wpS_pure ⟨rfl, lo, (lo + hi) / 2, rfl, by omega, by omega, by omega, hlo, fun i h1 h2 => ?_⟩
          rcases Nat.lt_or_eq_of_le h1 with q | q
          · exact Int.lt_trans hlt (above i q h2)
          · rw [← q]; exact hlt
        · rw [decide_eq_false hlt]
          simp only [Bool.false_eq_true, ↓reduceIte]
          have hgt : kc c (arrOf st'') ((lo + hi) / 2) < kc c (arrOf st'') k := by omega
          refine wpS_pure ⟨rfl, (lo + hi) / 2 + 1, hi, rfl, by omega, by omega, by omega, fun i h1 => ?_, hhi⟩
          rcases Nat.lt_or_eq_of_le (Nat.le_of_lt_succ h1) with q | q
          · exact Int.lt_trans (below i q) hgt
          · rw [q]; exact hgt
    · rintro r st'' ⟨rfl, lo, hi, rfl, hlh, hhk, hm, hlo, hhi⟩
      have : lo = hi := by omega
      subst this
      exact ⟨rfl, lo, lo, rfl, hhk, hlo, hhi⟩
    · rintro r st'' ⟨rfl, lo, hi, rfl, hlk, hlo, hhi⟩
      show wpS _ _ _ _ (do moveDown' k lo; pure (ForInStep.yield (none, ()))) _ _
      rw [moveDown'_eq]
      refine wpS_bind (wpS_modify (wpS_pure ⟨rfl, hB'.arr (bubble_perm _ _ _), ?_⟩))
      have hks : k < (arrOf st'').size := by rw [hB'.size]; omega
      have hk : ∀ i, kc c (bubble (arrOf st'') k (k - lo)) i = kc c (arrOf st'') (if i = lo then k else if lo < i ∧ i ≤ k then i - 1 else i) := fun i => by
        refine kc_congr ?_
        rw [getElem?_bubble hks _ (by omega), show k - (k - lo) = lo by omega]
        split
        · rfl
        · split <;> rfl
      intro i j hij hj
      show kc c (bubble (arrOf st'') k (k - lo)) i < kc c (bubble (arrOf st'') k (k - lo)) j
      rw [hk, hk]
      by_cases ei : i = lo
      · rw [if_pos ei]
        by_cases ej : j = lo
        · omega
        · rw [if_neg ej, if_pos (by omega)]
          exact hhi _ (by omega) (by omega)
      · rw [if_neg ei]
        by_cases ej : j = lo
        · rw [if_pos ej, if_neg (by omega)]
          exact hlo i (by omega)
        · rw [if_neg ej]
          by_cases e1 : lo < i ∧ i ≤ k
          · rw [if_pos e1, if_pos (by omega)]
            exact hs' _ _ (by omega) (by omega)
          · rw [if_neg e1]
            by_cases e2 : lo < j ∧ j ≤ k
            · rw [if_pos e2]
              rcases Nat.lt_or_eq_of_le (show i ≤ j - 1 by omega) with q | q
              · exact hs' _ _ q (by omega)
              · omega
            · rw [if_neg e2]
              exact hs' _ _ hij (by omega)
  · rintro r st' ⟨rfl, hB', hs'⟩
    rw [Nat.max_eq_right (Nat.le_trans (by rw [Nat.max_eq_left h1]; exact hok) (Nat.le_refl n))] at hs'
    exact ⟨rfl, hB', hs'⟩
  · rintro r st' ⟨rfl, hB', hs'⟩
    exact wpS_pure (h st' hB' hs')

theorem runs (hL : LT prog w A s c κ a₀) (hD : (a₀.toList.map fun p => c p.1).Nodup) {st : SortSt} {Q : Unit → SortSt → Prop} (hB : SB κ a₀ st) (h2 : 2 ≤ a₀.size) (h64 : a₀.size < 64)
    (h : ∀ st', (arrOf st').Perm a₀ → failedOf st' = none → Up c (arrOf st') a₀.size → Q () st') : wpS (model prog w) A E s sortRuns' Q st := by
  rw [sortRuns'_eq]
  refine wpS_bind (wpS_get ?_)
  dsimp only
  have hmr : minRun' a₀.size a₀.size 0 = a₀.size := by
    obtain ⟨f, hf⟩ : ∃ f, a₀.size = f + 1 := ⟨a₀.size - 1, by omega⟩
    have : minRun' (f + 1) a₀.size 0 = a₀.size := by rw [minRun'_succ, if_pos h64]; rfl
    rwa [← hf] at this
  simp only [hB.size, hmr]
  let D : SortSt → Prop := fun st => (arrOf st).Perm a₀ ∧ failedOf st = none ∧ pendingOf st = #[(0, a₀.size, 0)] ∧ Up c (arrOf st) a₀.size
  have fin : ∀ st', SB κ a₀ st' → Up c (arrOf st') a₀.size → D (setPending st' ((pendingOf st').push (0, a₀.size, 0))) := fun st' b u =>
    ⟨b.perm, b.failed, by show (pendingOf st').push _ = _; rw [b.pend]; rfl, u⟩
  refine wpS_bind (wpS_mono (wpS_forRange (I := fun x r st' => (x = 0 ∧ r = (none, 0) ∧ SB κ a₀ st') ∨ (1 ≤ x ∧ r = (none, a₀.size) ∧ D st')) (Q := fun r st' => r = (none, a₀.size) ∧ D st') ?_ ?_ (.inl ⟨rfl, rfl, hB⟩)) ?_)
  · rintro x r st' _ hx (⟨rfl, rfl, hB'⟩ | ⟨hx1, rfl, hd⟩)
    · dsimp only
      rw [if_neg (by omega)]
      simp only [Nat.sub_zero, Nat.min_self, Nat.zero_add]
      refine wpS_bind (count_run hL hD hB' (Nat.le_refl _) (by omega) fun m st2 hB2 hm1 hm2 hs2 => ?_)
      dsimp only
      by_cases hlt : m < a₀.size
      · rw [if_pos hlt]
        refine wpS_bind (wpS_lift (wpAny_rule ⟨rfl, ?_⟩))
        refine wpS_bind (bin_sort hL hD hB2 (Nat.le_refl _) hm1 hm2 hs2 fun st3 hB3 hs3 => ?_)
        simp only [Bool.not_true, Bool.false_eq_true, if_false]
        refine wpS_bind (wpS_get ?_)
        have hb : (pendingOf st3).back? = none := by rw [hB3.pend]; rfl
        rw [hb]
        dsimp only
        exact wpS_bind (wpS_modify (wpS_pure (.inr ⟨by omega, rfl, fin _ hB3 hs3⟩)))
      · rw [if_neg hlt]
        have hm : m = a₀.size := by omega
        subst hm
        refine wpS_bind (wpS_get ?_)
        have hb : (pendingOf st2).back? = none := by rw [hB2.pend]; rfl
        rw [hb]
        dsimp only
        exact wpS_bind (wpS_modify (wpS_pure (.inr ⟨by omega, rfl, fin _ hB2 hs2⟩)))
    · dsimp only
      rw [if_pos (Nat.le_refl _)]
      exact wpS_pure ⟨rfl, hd⟩
  · rintro r st' (⟨hx, _, _⟩ | ⟨_, hr, hd⟩)
    · omega
    · exact ⟨hr, hd⟩
  · rintro r st' ⟨rfl, hd⟩
    dsimp only
    refine wpS_bind (wpS_mono (wpS_forRange (I := fun _ r st'' => st'' = st' ∧ r = (none, ())) (Q := fun r st'' => st'' = st' ∧ r = (none, ())) ?_ (fun _ _ hh => hh) ⟨rfl, rfl⟩) ?_)
    · rintro x r st'' _ _ ⟨rfl, rfl⟩
      refine wpS_bind (wpS_get ?_)
      rw [if_pos (by rw [hd.2.2.1]; exact Nat.le_refl 1)]
      exact wpS_pure ⟨rfl, rfl⟩
    · rintro r st'' ⟨rfl, rfl⟩
      exact wpS_pure (h _ hd.1 hd.2.1 hd.2.2.2)
end
end Mine
end

section
open PySem PySem.W PySem.Calls PyProof.Rows
set_option Elab.async false
set_option maxRecDepth 100000
namespace Mine
section
variable {prog : Program} {w : World} {A : Around} {E : Value → Shared → Prop} {s : Shared} {c : Value → Int} {κ : SortKind}

theorem zip_self_eq : ∀ {vs : List Value} {p : Keyed}, p ∈ vs.zip vs → p.1 = p.2
  | v :: vs, p, h => by
    rw [List.zip_cons_cons] at h
    rcases List.mem_cons.mp h with rfl | h
    · rfl
    · exact zip_self_eq h
theorem zip_self_map (f : Value → Int) : ∀ (vs : List Value), (vs.zip vs).map (fun p => f p.1) = vs.map f
  | [] => rfl
  | v :: vs => by rw [List.zip_cons_cons, List.map_cons, List.map_cons, zip_self_map f vs]
theorem zip_self_snd : ∀ (vs : List Value), (vs.zip vs).map (·.2) = vs
  | [] => rfl
  | v :: vs => by rw [List.zip_cons_cons, List.map_cons, zip_self_snd vs]

theorem out_of {vs : List Value} {arr : Array Keyed} (hp : arr.Perm (pairsOf vs)) (hu : Up c arr (pairsOf vs).size) : (arr.map (·.2)).toList.Perm vs ∧ ((arr.map (·.2)).toList.map c).Pairwise (· < ·) := by
  have hl : arr.toList.Perm (vs.zip vs) := by rw [← pairsOf_toList]; exact Array.perm_iff_toList_perm.mp hp
  refine ⟨?_, ?_⟩
  · rw [Array.toList_map]
    exact (hl.map _).trans (by rw [zip_self_snd])
  · rw [List.pairwise_iff_getElem]
    intro i j hi hj hij
    simp only [Array.toList_map, List.length_map, Array.length_toList] at hi hj
    have hs : arr.size = (pairsOf vs).size := hp.size_eq
    have := hu i j hij (by omega)
    unfold kc at this
    rw [getElem?_pos arr i hi, getElem?_pos arr j hj] at this
    have e : ∀ k (hk : k < arr.size), arr[k].1 = arr[k].2 := fun k hk => zip_self_eq (hl.mem_iff.mp (by simp))
    simp only [e i hi, e j hj] at this
    simpa using this

/-- list.sort, where the codes of the items are told apart and the comparison tells the codes -/
theorem list_sort_gen {a : Addr} {vs : List Value} {n : Nat} {P : Fin → Shared → Prop} (ho : s.heap.get? a = some (seqObj "list" vs.toArray n)) (h64 : vs.length < 64) (hD : (vs.map c).Nodup)
    (hkk : ∀ s' : Shared, Upto [a] s.heap s'.heap → 2 ≤ vs.length → ∀ (Q : SortKind → Shared → Prop) (E : Value → Shared → Prop), Q κ s' → wpAny (model prog w) A (keyKind' vs.toArray) Q E s')
    (hL : ∀ s' : Shared, Upto [a] s.heap s'.heap → LT prog w A s' c κ (pairsOf vs))
    (h : ∀ (h' : Heap) (out : List Value) (n' : Nat), Upto [a] s.heap h' → h'.get? a = some (seqObj "list" out.toArray n') → out.Perm vs → (out.map c).Pairwise (· < ·) → P (.done (.ret .none)) { s with heap := h' }) :
    wpAny (model prog w) A (Builtin.«list.sort» ⟨[.ref a], []⟩) P E s := by
  rw [list_sort_plain]
  refine wpAny_bind (listItems_at ho rfl ?_)
  refine wpAny_bind (listUpdate_at ho rfl ?_)
  have ho1 := get?_update_seq ho (fun _ => #[])
  have u1 : Upto [a] s.heap (s.heap.update a (Obj.mapSeq fun _ => #[])) := Upto.same (Heap.SameBut.update ..) (.head _)
  generalize s.heap.update a (Obj.mapSeq fun _ => #[]) = h1 at ho1 u1
  refine wpAny_bind (seqEpoch_at ho1 rfl ?_)
  refine wpAny_bind (wpAny_newTuple ?_)
  refine wpAny_bind (wpAny_newList ?_)
  refine wpAny_holding ?_
  have u2 : Upto [] h1 ((h1.push (seqObj "tuple" vs.toArray 0)).push (seqObj "list" #[] 0)) := (Upto.push _).trans (Upto.push _)
  have ho2 := u2.at ho1 (by simp)
  show wpAny (model prog w) A _ P E { s with heap := (h1.push (seqObj "tuple" vs.toArray 0)).push (seqObj "list" #[] 0) }
  generalize (h1.push (seqObj "tuple" vs.toArray 0)).push (seqObj "list" #[] 0) = h2 at u2 ho2
  have u02 : Upto [a] s.heap h2 := u1.trans (u2.mono (by simp))
  have hsz : vs.toArray.size = vs.length := by simp
  dsimp only
  have done : ∀ (arr : Array Keyed), arr.Perm (pairsOf vs) → Up c arr (pairsOf vs).size → P (.done (.ret .none)) { s with heap := h2.update a (Obj.mapSeq fun _ => arr.map (·.2)) } := fun arr hp hu => by
    obtain ⟨o1, o2⟩ := out_of hp hu
    have g := get?_update_seq ho2 (fun _ => arr.map (·.2))
    generalize arr.map (·.2) = out at g o1 o2 ⊢
    obtain ⟨out⟩ := out
    exact h _ out _ (u02.trans (Upto.same (Heap.SameBut.update ..) (.head _))) g o1 o2
  by_cases h2' : vs.toArray.size < 2
  · rw [if_pos h2', if_pos h2']
    refine wpAny_bind (wpAny_pure ?_)
    rw [StateT.run_pure]
    refine wpAny_bind (wpAny_pure ?_)
    dsimp only
    refine wpAny_bind (seqEpoch_at ho2 rfl ?_)
    refine wpAny_bind (listUpdate_at ho2 rfl ?_ (hsz2 := by rw [Array.size_map]; show (pairsOf vs).size ≤ _; rw [pairsOf_size, sizeLine_eq]; omega))
    simp only [bne_self_eq_false, Bool.false_eq_true, if_false]
    refine wpAny_pure (done (pairsOf vs) (Array.Perm.refl _) fun i j hij hj => ?_)
    rw [pairsOf_size] at hj
    omega
  · rw [if_neg h2', if_neg h2']
    refine wpAny_bind (hkk { s with heap := h2 } u02 (by omega) _ _ ?_)
    refine wpAny_bind (wpAny_mono (runs (c := c) (κ := κ) (a₀ := pairsOf vs) (s := { s with heap := h2 }) (hL _ u02) (by rw [pairsOf_toList, zip_self_map]; exact hD) (st := SortSt.mk' κ (vs.toArray.zip vs.toArray) #[] 7 none)
      (Q := fun _ st' => (arrOf st').Perm (pairsOf vs) ∧ failedOf st' = none ∧ Up c (arrOf st') (pairsOf vs).size)
      ⟨Array.Perm.refl _, rfl, rfl, rfl⟩ (by rw [pairsOf_size]; omega) (by rw [pairsOf_size]; exact h64) fun st' a1 a2 a3 => ⟨a1, a2, a3⟩) ?_ fun _ _ e => e)
    rintro ⟨⟨⟩, st'⟩ s' ⟨rfl, hp, hf, hs⟩
    dsimp only
    refine wpAny_bind (seqEpoch_at ho2 rfl ?_)
    refine wpAny_bind (listUpdate_at ho2 rfl ?_ (hsz2 := by refine Nat.le_trans (Nat.le_of_eq ((Array.size_map ..).trans (hp.size_eq.trans (pairsOf_size _)))) ?_; rw [sizeLine_eq]; omega))
    rw [hf]
    simp only [bne_self_eq_false, Bool.false_eq_true, if_false]
    exact wpAny_pure (done _ hp hs)

theorem sorted_gen {x : Value} {Q : Value → Shared → Prop}
    (h : wpAny (model prog w) A.in1 (collect x) (fun vs s1 => vs.length < 64 ∧ (vs.map c).Nodup ∧
      (∀ s' : Shared, Upto [] s1.heap s'.heap → 2 ≤ vs.length → ∀ (Q : SortKind → Shared → Prop) (E : Value → Shared → Prop), Q κ s' → wpAny (model prog w) A.in1.in1 (keyKind' vs.toArray) Q E s') ∧
      (∀ s' : Shared, Upto [] s1.heap s'.heap → LT prog w A.in1.in1 s' c κ (pairsOf vs)) ∧
      ∀ (h' : Heap) (out : List Value) (n' : Nat) (r : Addr), Upto [] s1.heap h' → s1.heap.get? r = none → h'.get? r = some (seqObj "list" out.toArray n') → out.Perm vs → (out.map c).Pairwise (· < ·) → Q (.ref r) { s1 with heap := h' }) E s) :
    wpAny (model prog w) A (call (.builtin "sorted") [x]) Q E s := by
  refine Calls.call_function_entry kind_sorted plain_sorted entry_sorted (args_sorted1 _) ?_
  unfold Builtin.«sorted»
  refine wpAny_bind (m := checkCount "sorted" 1 1 _) (wpAny_pure ?_)
  refine wpAny_bind (wpAny_mono h (fun vs s1 q => ?_) fun _ _ e => e)
  obtain ⟨h64, hD, hkk, hL, hQ⟩ := q
  refine wpAny_bind (wpAny_newList ?_)
  have hr : (s1.heap.push (seqObj "list" vs.toArray 0)).get? s1.heap.objs.size = some (seqObj "list" vs.toArray 0) := Heap.get?_push_size _ rfl
  have uP : Upto [] s1.heap (s1.heap.push (seqObj "list" vs.toArray 0)) := Upto.push _
  have fr : s1.heap.get? s1.heap.objs.size = none := get_none_size
  show wpAny _ _ _ _ _ { s1 with heap := s1.heap.push (seqObj "list" vs.toArray 0) }
  generalize s1.heap.push (seqObj "list" vs.toArray 0) = h1 at hr uP
  generalize s1.heap.objs.size = r at hr fr
  have up : ∀ {h' : Heap}, Upto [r] h1 h' → Upto [] s1.heap h' := fun u b o hb e => u b o (by simpa using ne_of_none e fr) (uP b o hb e)
  refine wpAny_bind (wpAny_holding (wpAny_call_entry slot_list_sort ⟨_, hr, rfl⟩ entry_list_sort (list_sort_gen (c := c) (κ := κ) (s := { s1 with heap := h1 }) hr h64 hD (fun s' u => hkk s' (up u)) (fun s' u => hL s' (up u)) fun h' out n' u g1 g2 g3 => ⟨_, rfl, ?_⟩) (args_list_sort _)))
  exact wpAny_pure ⟨_, rfl, hQ h' out n' r (up u) fr g1 g2 g3⟩
end
end Mine
end

section
open PySem PySem.W PySem.Calls PyProof.Rows
set_option Elab.async false
set_option maxRecDepth 100000
namespace Mine

def code (p : Int × Int) : Int := 6 * p.1 + p.2
theorem code_lt {p q : Int × Int} (hp : Small p) (hq : Small q) : code p < code q ↔ (if p.1 = q.1 then p.2 < q.2 else p.1 < q.1) := by
  obtain ⟨a, b⟩ := p
  obtain ⟨x, y⟩ := q
  simp only [Small, six, List.mem_cons, List.not_mem_nil, or_false] at hp hq
  simp only [code]
  split <;> omega
theorem code_inj {p q : Int × Int} (hp : Small p) (hq : Small q) (e : code p = code q) : p = q := by
  obtain ⟨a, b⟩ := p
  obtain ⟨x, y⟩ := q
  simp only [Small, six, List.mem_cons, List.not_mem_nil, or_false] at hp hq
  simp only [code] at e
  have : a = x := by omega
  have : b = y := by omega
  simp [*]

open Classical in
/-- the code of what a reference leads to -/
noncomputable def cT (h : Heap) (v : Value) : Int := if x : ∃ p r, v = .ref r ∧ TupAt h r p then code (Classical.choose x) else 0
theorem cT_eq {h : Heap} {r : Addr} {p : Int × Int} (t : TupAt h r p) : cT h (.ref r) = code p := by
  have x : ∃ p r', Value.ref r = .ref r' ∧ TupAt h r' p := ⟨p, r, rfl, t⟩
  unfold cT
  rw [dif_pos x]
  obtain ⟨r', e, t'⟩ := Classical.choose_spec x
  cases e
  rw [t'.inj t]
def cI (v : Value) : Int := match v with | .int n _ => n | _ => 0

section
variable {prog : Program} {w : World} {A : Around} {E : Value → Shared → Prop} {s : Shared}

theorem LT_ints {vs : List Value} {ns : List Int} (hi : IntsAre vs ns) : LT prog w A s cI oneType' (pairsOf vs) := by
  intro p hp q hq Q E h
  rw [pairsOf_toList] at hp hq
  obtain ⟨n, t, e1⟩ := hi.all _ (mem_zip_self hp).2
  obtain ⟨m, u, e2⟩ := hi.all _ (mem_zip_self hq).2
  rw [keyLt'_oneType]
  rw [e1, e2] at h ⊢
  exact oneLt_int h

theorem lt_tups {r1 r2 : Addr} {p q : Int × Int} {Q : Bool → Shared → Prop} (t1 : TupAt s.heap r1 p) (t2 : TupAt s.heap r2 q) (hp : Small p) (hq : Small q) (h : Q (decide (code p < code q)) s) :
    wpAny (model prog w) A (keyLt' (tuples' true) (.ref r1) (.ref r2)) Q E s := by
  obtain ⟨o1, n1, a1, b1, ho1, _, hd1⟩ := t1
  obtain ⟨o2, n2, a2, b2, ho2, _, hd2⟩ := t2
  refine kat_lt ho1 hd1 ho2 hd2 ?_
  refine kat_cons (wpAny_eqBool_int ?_)
  by_cases e : p.1 = q.1
  · rw [show (p.1 == q.1) = true by simpa using e]
    refine kat_yes (kat_cons (wpAny_eqBool_int ?_))
    by_cases e2 : p.2 = q.2
    · rw [show (p.2 == q.2) = true by simpa using e2]
      refine kat_yes (kat_nil ?_)
      have : ¬ code p < code q := by rw [show p = q from Prod.ext e e2]; exact Int.lt_irrefl _
      rw [decide_eq_false this] at h
      exact h
    · rw [show (p.2 == q.2) = false by simpa using e2]
      refine kat_no ?_
      show wpAny _ _ (oneLt' false _ _) _ _ _
      refine kat_one _ _ (lt_int ?_)
      have : (decide (code p < code q)) = decide (p.2 < q.2) := by rw [decide_eq_decide, code_lt hp hq, if_pos e]
      rw [this] at h
      exact h
  · rw [show (p.1 == q.1) = false by simpa using e]
    refine kat_no ?_
    show wpAny _ _ (oneLt' true _ _) _ _ _
    refine oneLt_int ?_
    have : (decide (code p < code q)) = decide (p.1 < q.1) := by rw [decide_eq_decide, code_lt hp hq, if_neg e]
    rw [this] at h
    exact h

theorem mem_refs {rs : List Addr} {v : Value} (h : v ∈ rs.map Value.ref) : ∃ r, r ∈ rs ∧ v = .ref r := by
  obtain ⟨r, hr, rfl⟩ := List.mem_map.mp h
  exact ⟨r, hr, rfl⟩
theorem Tups.memP {h : Heap} : ∀ {rs : List Addr} {ps : List (Int × Int)}, Tups h rs ps → ∀ r, r ∈ rs → ∃ p, p ∈ ps ∧ TupAt h r p
  | [], [], _, r, hr => absurd hr List.not_mem_nil
  | [], _ :: _, h, _, _ => h.elim
  | _ :: _, [], h, _, _ => h.elim
  | r0 :: rs, p :: ps, h, r, hr => by
    rcases List.mem_cons.mp hr with rfl | hr
    · exact ⟨p, .head _, h.1⟩
    · obtain ⟨q, hq, t⟩ := Tups.memP h.2 r hr
      exact ⟨q, .tail _ hq, t⟩
theorem Tups.codes {h : Heap} : ∀ {rs : List Addr} {ps : List (Int × Int)}, Tups h rs ps → (rs.map Value.ref).map (cT h) = ps.map code
  | [], [], _ => rfl
  | [], _ :: _, h => h.elim
  | _ :: _, [], h => h.elim
  | _ :: _, _ :: _, h => by rw [List.map_cons, List.map_cons, List.map_cons, cT_eq h.1, Tups.codes h.2]
/-- other lists of the same places -/
theorem tups_of {h : Heap} : ∀ {rs : List Addr}, (∀ r, r ∈ rs → ∃ p, TupAt h r p) → ∃ ps, Tups h rs ps
  | [], _ => ⟨[], trivial⟩
  | r :: rs, k => by
    obtain ⟨p, t⟩ := k r (.head _)
    obtain ⟨ps, T⟩ := tups_of fun x hx => k x (.tail _ hx)
    exact ⟨p :: ps, t, T⟩
theorem Tups.mem_iff {h : Heap} {rs rs' : List Addr} {ps ps' : List (Int × Int)} (T : Tups h rs ps) (T' : Tups h rs' ps') (hr : ∀ r, r ∈ rs' ↔ r ∈ rs) : ∀ p, p ∈ ps' ↔ p ∈ ps := by
  have one : ∀ {rs rs' : List Addr} {ps ps' : List (Int × Int)}, Tups h rs ps → Tups h rs' ps' → (∀ r, r ∈ rs' → r ∈ rs) → ∀ p, p ∈ ps' → p ∈ ps := by
    intro rs rs' ps ps' T T' hr p hp
    obtain ⟨i, hi, rfl⟩ := List.mem_iff_getElem.mp hp
    have hi' : i < rs'.length := by rw [T'.length]; exact hi
    obtain ⟨q, hq, t⟩ := T'.get (List.getElem?_eq_getElem hi')
    rw [List.getElem?_eq_getElem hi] at hq
    cases hq
    obtain ⟨p', hp', t'⟩ := T.memP _ (hr _ (List.getElem_mem hi'))
    rw [t.inj t']; exact hp'
  exact fun p => ⟨one T T' (fun r hr' => (hr r).mp hr') p, one T' T (fun r hr' => (hr r).mpr hr') p⟩

theorem LT_tups {h0 : Heap} {rs : List Addr} {ps : List (Int × Int)} (T : Tups h0 rs ps) (hs : ∀ p, p ∈ ps → Small p) (u : Upto [] h0 s.heap) : LT prog w A s (cT h0) (tuples' true) (pairsOf (rs.map Value.ref)) := by
  intro p hp q hq Q E h
  rw [pairsOf_toList] at hp hq
  obtain ⟨r1, hr1, e1⟩ := mem_refs (mem_zip_self hp).2
  obtain ⟨r2, hr2, e2⟩ := mem_refs (mem_zip_self hq).2
  obtain ⟨x, hx, t1⟩ := T.memP r1 hr1
  obtain ⟨y, hy, t2⟩ := T.memP r2 hr2
  rw [e1, e2] at h ⊢
  rw [cT_eq t1, cT_eq t2] at h
  exact lt_tups (t1.at u (by simp)) (t2.at u (by simp)) (hs x hx) (hs y hy) h

theorem kattups : ∀ {rs : List Addr} {ps : List (Int × Int)} {h : Heap}, Tups h rs ps → ∃ fs, KatTups h (rs.map Value.ref) fs ∧ fs.length = rs.length ∧ ∀ v, v ∈ fs → ∃ n t, v = Value.int n t
  | [], [], _, _ => ⟨[], trivial, rfl, fun _ h => absurd h List.not_mem_nil⟩
  | [], _ :: _, _, h => h.elim
  | _ :: _, [], _, h => h.elim
  | r :: rs, p :: ps, h, T => by
    obtain ⟨fs, K, hl, hv⟩ := kattups T.2
    obtain ⟨o, n, t, u, ho, hc, hd⟩ := T.1
    refine ⟨.int p.1 t :: fs, KatTups.cons ho hc hd rfl K, by simp [hl], fun v hm => ?_⟩
    rcases List.mem_cons.mp hm with rfl | hm
    · exact ⟨_, _, rfl⟩
    · exact hv v hm
theorem kind_tups {rs : List Addr} {ps : List (Int × Int)} {Q : SortKind → Shared → Prop} (T : Tups s.heap rs ps) (h2 : 2 ≤ rs.length) (h : Q (tuples' true) s) : wpAny (model prog w) A (keyKind' (rs.map Value.ref).toArray) Q E s := by
  obtain ⟨fs, K, hl, hv⟩ := kattups T
  refine kat_kind (T := .type "int") K (by omega) (fun v hm => ?_) (by decide) ?_
  · obtain ⟨n, t, rfl⟩ := hv v hm
    exact Looks.of_pure rfl
  · exact h
end
end Mine
end

section
open PySem PySem.W PySem.Calls PyProof.Rows
set_option Elab.async false
set_option maxRecDepth 100000
namespace Mine

theorem ints_of_all : ∀ {vs : List Value}, (∀ v, v ∈ vs → ∃ n t, v = Value.int n t) → IntsAre vs (vs.map cI)
  | [], _ => .nil
  | v :: vs, h => by
    obtain ⟨n, t, rfl⟩ := h v (.head _)
    exact .cons n t (ints_of_all fun x hx => h x (.tail _ hx))
theorem ints_cI {vs : List Value} {ns : List Int} (h : IntsAre vs ns) : vs.map Mine.cI = ns := by
  induction h with
  | nil => rfl
  | cons n t _ ih => rw [List.map_cons, ih]; rfl
theorem kind_ints {vs : List Value} {ns : List Int} (hi : IntsAre vs ns) (h2 : 2 ≤ vs.length) : keyKind' vs.toArray = pure oneType' := by
  match vs, h2, hi with
  | [], h2, _ => simp at h2
  | [_], h2, _ => simp at h2
  | v1 :: v2 :: vs, _, hi => exact keyKind_ints hi
theorem intEs_ints : ∀ {es : List (Int × Value)} {l : List Int}, IntEs es l → IntsAre (es.map (·.2)) l
  | [], [], _ => .nil
  | [], _ :: _, h => h.elim
  | _ :: _, [], h => h.elim
  | e :: es, k :: l, h => by
    obtain ⟨tok, rfl⟩ := h.1
    exact .cons k tok (intEs_ints h.2)
theorem ints_perm {vs out : List Value} {ns : List Int} (hi : IntsAre vs ns) (hp : out.Perm vs) : IntsAre out (out.map cI) ∧ (out.map cI).Perm ns := by
  refine ⟨ints_of_all fun v hv => ?_, ?_⟩
  · obtain ⟨n, t, e⟩ := hi.all v (hp.mem_iff.mp hv)
    exact ⟨n, t, e⟩
  · exact (hp.map cI).trans (by rw [ints_cI hi])
theorem pes_tups {G : Addr → Prop} {h : Heap} : ∀ {es : List (Int × Value)} {l : List (Int × Int)}, PEs G h es l → ∃ rs, es.map (·.2) = rs.map Value.ref ∧ Tups h rs l ∧ ∀ r, r ∈ rs → G r
  | [], [], _ => ⟨[], rfl, trivial, fun _ h => absurd h List.not_mem_nil⟩
  | [], _ :: _, h => h.elim
  | _ :: _, [], h => h.elim
  | e :: es, p :: l, h => by
    obtain ⟨r, rfl, t, g⟩ := h.1
    obtain ⟨rs, e1, T, hg⟩ := pes_tups h.2
    refine ⟨r :: rs, by rw [List.map_cons, List.map_cons, e1], ⟨t, T⟩, fun x hx => ?_⟩
    rcases List.mem_cons.mp hx with rfl | hx
    · exact g
    · exact hg x hx
theorem refs_of_perm : ∀ {out : List Value} {rs : List Addr}, (∀ v, v ∈ out → v ∈ rs.map Value.ref) → ∃ rs' : List Addr, out = rs'.map Value.ref
  | [], _, _ => ⟨[], rfl⟩
  | v :: out, rs, h => by
    obtain ⟨r, _, rfl⟩ := mem_refs (h v (.head _))
    obtain ⟨rs', rfl⟩ := refs_of_perm (out := out) (rs := rs) fun x hx => h x (.tail _ hx)
    exact ⟨r :: rs', rfl⟩
theorem ref_mem {r : Addr} {rs : List Addr} : Value.ref r ∈ rs.map Value.ref ↔ r ∈ rs := by
  rw [List.mem_map]
  exact ⟨fun ⟨x, hx, e⟩ => by cases e; exact hx, fun h => ⟨r, h, rfl⟩⟩

section
variable {prog : Program} {w : World} {A : Around} {E : Value → Shared → Prop} {s : Shared} {a : Addr}

/-- sorted(..) of a set of ints -/
theorem sorted_iset {l : List Int} {Q : Value → Shared → Prop} (hq : Quiet A s.heap) (hS : ISet w true s.heap a l)
    (h : ∀ (h' : Heap) (tk : Nat) (r : Addr) (vs : List Value) (ns : List Int), Upto [] s.heap h' → s.heap.get? r = none → h'.IsList r vs.toArray → IntsAre vs ns → ns.Pairwise (· < ·) → (∀ n, n ∈ ns ↔ n ∈ l) → Q (.ref r) { s with heap := h', toks := tk }) :
    wpAny (model prog w) A (call (.builtin "sorted") [.ref a]) Q E s := by
  obtain ⟨es, ep, t, ho, O⟩ := id hS
  have W : WOk w es t := ⟨O.plain, O.led, O.fits, (O.clean rfl).ok⟩
  have hp := ordE_perm w a ep es
  have h6 := hS.len
  have hlen : es.size = l.length := by rw [← Array.length_toList, O.ents.length]
  have hi : IntsAre (es.toList.map (·.2)) l := intEs_ints O.ents
  obtain ⟨hi2, hp2⟩ := ints_perm hi (hp.map (·.2))
  refine sorted_gen (c := cI) (κ := oneType') (collect_setO (A := A.in1) ho W hq (by omega) fun h1 tk1 u1 => ⟨?_, hp2.nodup_iff.mpr O.nodup, fun s' u h2 Q E hQ => ?_, fun s' u => LT_ints hi2, fun h' out n' r u fr g po pw => ?_⟩)
  · rw [List.length_map, Array.length_toList, ordE_size]; omega
  · rw [kind_ints hi2 h2]
    exact wpAny_pure hQ
  · obtain ⟨hi3, hp3⟩ := ints_perm hi2 po
    refine h h' tk1 r out _ (u1.trans u) ?_ ⟨_, g, rfl, _, rfl⟩ hi3 pw fun n => (hp3.trans hp2).mem_iff
    exact none_of u1 fr

theorem sort_tups {h0 h' : Heap} {rs : List Addr} {ps : List (Int × Int)} {out : List Value} (T : Tups h0 rs ps) (u : Upto [] h0 h') (po : out.Perm (rs.map Value.ref)) (pw : (out.map (cT h0)).Pairwise (· < ·)) :
    ∃ rs' ps', out = rs'.map Value.ref ∧ Tups h' rs' ps' ∧ (ps'.map code).Pairwise (· < ·) ∧ (∀ p, p ∈ ps' ↔ p ∈ ps) ∧ ∀ r, r ∈ rs' → r ∈ rs := by
  obtain ⟨rs', rfl⟩ := refs_of_perm (rs := rs) fun v hv => po.mem_iff.mp hv
  have hr : ∀ r, r ∈ rs' ↔ r ∈ rs := fun r => by rw [← ref_mem, po.mem_iff, ref_mem]
  obtain ⟨ps', T'⟩ := tups_of (rs := rs') fun r hr' => by
    obtain ⟨p, _, t⟩ := T.memP r ((hr r).mp hr')
    exact ⟨p, t⟩
  exact ⟨rs', ps', rfl, T'.at u (by simp), by rw [← T'.codes]; exact pw, T.mem_iff T' hr, fun r h => (hr r).mp h⟩

theorem codes_nodup {ps : List (Int × Int)} (hn : ps.Nodup) (hs : ∀ p, p ∈ ps → Small p) : (ps.map code).Nodup := by
  induction ps with
  | nil => exact .nil
  | cons p ps ih =>
    obtain ⟨h1, h2⟩ := List.nodup_cons.mp hn
    rw [List.map_cons]
    refine List.nodup_cons.mpr ⟨fun hm => ?_, ih h2 fun q hq => hs q (.tail _ hq)⟩
    obtain ⟨q, hq, e⟩ := List.mem_map.mp hm
    exact h1 (code_inj (hs q (.tail _ hq)) (hs p (.head _)) e ▸ hq)

/-- sorted(..) of a set of pairs -/
theorem sorted_pset {G : Addr → Prop} {l : List (Int × Int)} {Q : Value → Shared → Prop} (hq : Quiet A s.heap) (hS : PSet w G s.heap a l) (hl : l.length ≤ 12)
    (h : ∀ (h' : Heap) (tk : Nat) (r : Addr) (rs : List Addr) (ps : List (Int × Int)), Upto [] s.heap h' → s.heap.get? r = none → h'.IsList r (rs.map Value.ref).toArray → Tups h' rs ps → (ps.map code).Pairwise (· < ·) → (∀ p, p ∈ ps ↔ p ∈ l) →
      Q (.ref r) { s with heap := h', toks := tk }) :
    wpAny (model prog w) A (call (.builtin "sorted") [.ref a]) Q E s := by
  obtain ⟨es, ep, t, ho, O⟩ := id hS
  have W : WOk w es t := ⟨O.plain, O.led, O.clean.fits, O.clean.ok⟩
  have hp := ordE_perm w a ep es
  obtain ⟨l2, pe2, pl2⟩ := PEs.perm hp O.ents
  have hlen : es.size = l.length := by rw [← Array.length_toList, O.ents.length]
  obtain ⟨rs, e1, T, hg⟩ := pes_tups pe2
  have hs2 : ∀ p, p ∈ l2 → Small p := fun p hp => O.small p (pl2.mem_iff.mp hp)
  refine sorted_gen (c := cT s.heap) (κ := tuples' true) (collect_setO (A := A.in1) ho W hq (by omega) fun h1 tk1 u1 => ?_)
  have e2 : (ordE w a ep es).toList.map (·.2) = rs.map Value.ref := e1
  rw [e2]
  refine ⟨by rw [List.length_map, T.length, pl2.length_eq]; omega, by rw [T.codes]; exact codes_nodup (pl2.nodup_iff.mpr O.nodup) hs2, fun s' u h2 Q E hQ => kind_tups (T.at (u1.trans u) (by simp)) (by simpa using h2) hQ, fun s' u => LT_tups T hs2 (u1.trans u), fun h' out n' r u fr g po pw => ?_⟩
  obtain ⟨rs', ps', rfl, T', pw', hm, _⟩ := sort_tups T (u1.trans u) po pw
  exact h h' tk1 r rs' ps' (u1.trans u) (none_of u1 fr) ⟨_, g, rfl, _, rfl⟩ T' pw' fun p => (hm p).trans pl2.mem_iff

/-- sorted(..) of a list of pairs, told apart -/
theorem sorted_plist {rs : List Addr} {ps : List (Int × Int)} {Q : Value → Shared → Prop} (hl : s.heap.IsList a (rs.map Value.ref).toArray) (T : Tups s.heap rs ps) (hn : ps.Nodup) (hs : ∀ p, p ∈ ps → Small p) (h12 : ps.length ≤ 12)
    (h : ∀ (h' : Heap) (tk : Nat) (r : Addr) (rs' : List Addr) (ps' : List (Int × Int)), Upto [] s.heap h' → s.heap.get? r = none → h'.IsList r (rs'.map Value.ref).toArray → Tups h' rs' ps' → (ps'.map code).Pairwise (· < ·) → (∀ p, p ∈ ps' ↔ p ∈ ps) →
      Q (.ref r) { s with heap := h', toks := tk }) :
    wpAny (model prog w) A (call (.builtin "sorted") [.ref a]) Q E s := by
  have hlen : rs.length = ps.length := T.length
  refine sorted_gen (c := cT s.heap) (κ := tuples' true) (collect_list hl ?_ (by rw [List.length_map, sizeLine_eq]; omega))
  have u1 : Upto [] s.heap ((s.heap.push (seqObj "list" #[] 0)).update s.heap.objs.size (Obj.mapSeq (· ++ (rs.map Value.ref).toArray))) := fun b o _ e => by
    rw [(Heap.SameBut.update ..).2 b (ne_size e)]
    exact Heap.get?_push_of_some _ e
  refine ⟨by rw [List.length_map]; omega, by rw [T.codes]; exact codes_nodup hn hs, fun s' u h2 Q E hQ => kind_tups (T.at (u1.trans u) (by simp)) (by simpa using h2) hQ, fun s' u => LT_tups T hs (u1.trans u), fun h' out n' r u fr g po pw => ?_⟩
  obtain ⟨rs', ps', rfl, T', pw', hm, _⟩ := sort_tups T (u1.trans u) po pw
  exact h h' _ r rs' ps' (u1.trans u) (none_of u1 fr) ⟨_, g, rfl, _, rfl⟩ T' pw' hm
end
end Mine
end

section
open PySem PySem.W PySem.Calls PyProof.Rows
set_option Elab.async false
set_option maxRecDepth 100000
namespace Mine
section
variable {prog : Program} {w : World} {A : Around} {E : Value → Shared → Prop} {s : Shared} {a : Addr}

theorem call_meets {T : String} {name : Str} {id : String} {b : Builtin} {self : Value} {rest : List Value} {S : PySem.Spec} {Q : Value → Shared → Prop} (h : Slot T name id) (hT : s.TypeIs self T) (hb : entryFor table id = some b)
    (ha : argsOk id ⟨self :: rest, []⟩) (m : Meets (b ⟨self :: rest, []⟩) S) (hS : S A (wants Q E) s) : wpAny (model prog w) A (call (.builtin id) (self :: rest)) Q E s :=
  wpAny_call (codeAny_mono (codeAny_call_builtin (R := wants Q E) h.plain hb (h.check _ _ _ _ _ _ _ _ hT ha (m prog w A _ s hS))) fun r s' x => x)

theorem eqAt_int (n m : Int) (t u : Tok) : SeqAt.EqAt A s (.int n t) (.int m u) (n == m) := fun prog w E Q h => wpAny_eqBool_int h
theorem eqAt_tup {r1 r2 : Addr} {p q : Int × Int} (hu : A.units < cLine) (t1 : TupAt s.heap r1 p) (t2 : TupAt s.heap r2 q) : SeqAt.EqAt A s (.ref r1) (.ref r2) (decide (p = q)) := fun prog w E Q h => by
  refine wpAny_eqBool_tuple (knd := intKind prog w) hu t1.key t2.key ?_
  have : decide ([p.1, p.2] = [q.1, q.2]) = decide (p = q) := by
    rw [decide_eq_decide]
    constructor
    · intro e
      simp at e
      exact Prod.ext e.1 e.2
    · intro e; rw [e]
  rw [this]; exact h

/-- x in l / x not in l, a list -/
theorem contains_list {vs : Array Value} {x : Value} {e : Value → Bool} {Q : Bool → Shared → Prop} (hl : s.heap.IsList a vs) (he : ∀ y, y ∈ vs → SeqAt.EqAt A.in1 s y x (e y)) (h : Q (vs.any e) s) :
    wpAny (model prog w) A (contains (.ref a) x) Q E s := by
  obtain ⟨⟨cl, dd, da, sl⟩, ho, hc, n, hd⟩ := id hl
  dsimp only at hc hd
  subst hc hd
  have hT := hl.typeIs
  unfold contains
  refine wpAny_holding ?_
  refine wpAny_bind (wpAny_specialOf hT slot_list_contains.lookup ?_)
  show wpAny _ _ (if (some (Value.builtin "list.__contains__") == some Value.none) = true then _ else _) _ E s
  rw [if_neg (by rw [beq_builtin_none]; exact Bool.false_ne_true)]
  refine wpAny_bind (wpAny_callSpecialUnlessNone?_slot (name := Str.ofString "__contains__") hT slot_list_contains
    (call_meets slot_list_contains hT entry_list_contains (args_list_contains _ _) (SeqAt.list_containsAt a vs n dd sl x e) ⟨ho, he, wpAny_truthy_bool h⟩))
theorem in_list {vs : Array Value} {x : Value} {e : Value → Bool} {Q : Value → Shared → Prop} (hl : s.heap.IsList a vs) (he : ∀ y, y ∈ vs → SeqAt.EqAt A.in1 s y x (e y)) (h : Q (.bool (vs.any e)) s) :
    wpAny (model prog w) A (compareOp .In x (.ref a)) Q E s := wpAny_bind (contains_list hl he (wpAny_pure h))
theorem notIn_list {vs : Array Value} {x : Value} {e : Value → Bool} {Q : Value → Shared → Prop} (hl : s.heap.IsList a vs) (he : ∀ y, y ∈ vs → SeqAt.EqAt A.in1 s y x (e y)) (h : Q (.bool (!vs.any e)) s) :
    wpAny (model prog w) A (compareOp .NotIn x (.ref a)) Q E s := wpAny_bind (contains_list hl he (wpAny_pure h))
end
end Mine
end

section
open PySem PySem.W PySem.Calls PyProof.Rows
set_option Elab.async false
set_option maxRecDepth 100000
namespace Mine
section
variable {prog : Program} {w : World} {A : Around} {E : Value → Shared → Prop} {R : Result → Shared → Prop} {s : Shared} {env : Env} {bs : List (Str × Value)}

theorem emptyList {pos : Pos} {Q : Value → Shared → Prop} (h : Q (.ref s.heap.objs.size) { s with heap := s.heap.push (seqObj "list" #[] 0) }) : wpAny (model prog w) A (eval (.List [] pos) env) Q E s := by
  refine wpAny_List_spliced ?_
  show wpAny _ _ (spliced []) _ _ _
  exact spliced_nil ⟨Nat.zero_le _, h⟩
theorem IsList.at {h h' : Heap} {a : Addr} {vs : Array Value} {xs : List Addr} (x : h.IsList a vs) (u : Upto xs h h') (ha : a ∉ xs) : h'.IsList a vs := let ⟨o, ho, r⟩ := x; ⟨o, u.at ho ha, r⟩
theorem IsList.get {h : Heap} {a : Addr} {vs : Array Value} (x : h.IsList a vs) : ∃ o, h.get? a = some o ∧ o.cls = .type "list" := let ⟨o, ho, hc, _⟩ := x; ⟨o, ho, hc⟩
theorem IsList.noDict' {h : Heap} {a : Addr} {vs : Array Value} {n : Nat} (x : h.get? a = some (seqObj "list" vs n)) : ∀ b, Value.ref a = .ref b → ∃ ob, h.get? b = some ob ∧ ob.dict = none :=
  fun b e => by cases e; exact ⟨_, x, rfl⟩

/-- a list that the program's own code laid down -/
def PL (h : Heap) (a : Addr) (vs : List Value) : Prop := ∃ n, h.get? a = some (seqObj "list" vs.toArray n)
theorem PL.list {h : Heap} {a : Addr} {vs : List Value} (x : PL h a vs) : h.IsList a vs.toArray := let ⟨n, ho⟩ := x; ⟨_, ho, rfl, n, rfl⟩
theorem PL.at {h h' : Heap} {a : Addr} {vs : List Value} {xs : List Addr} (x : PL h a vs) (u : Upto xs h h') (ha : a ∉ xs) : PL h' a vs := let ⟨n, ho⟩ := x; ⟨n, u.at ho ha⟩
theorem PL.get {h : Heap} {a : Addr} {vs : List Value} (x : PL h a vs) : ∃ o, h.get? a = some o ∧ o.cls = .type "list" := let ⟨_, ho⟩ := x; ⟨_, ho, rfl⟩
theorem Loc.ne_pl {h : Heap} {L a : Addr} {vs : List Value} (l : Loc h L bs) (x : PL h a vs) : a ≠ L := l.ne_list x.list

/-- l.append(x) -/
theorem append_pl {o e : Expr} {apos pos : Pos} {Q : Value → Shared → Prop}
    (h : wpAny (model prog w) A (eval o env) (fun ov s1 => ∃ a vs, ov = .ref a ∧ PL s1.heap a vs ∧ vs.length ≤ 1000 ∧
      wpAny (model prog w) A (eval e env) (fun v s2 => PL s2.heap a vs ∧ ∀ h', PL h' a (vs ++ [v]) → Heap.SameBut a s2.heap h' → Q .none { s2 with heap := h' }) E s1) E s)
    (hbase : attributeBase o (Str.ofString "append") env (eval o env) = eval o env := by rfl) (hline : (apos.endLine == pos.line) = true := by rfl) (hs : starEach [e] env = [(false, eval e env)] := by rfl) :
    wpAny (model prog w) A (eval (.Call (.Attribute o (Str.ofString "append") apos) [e] [] pos) env) Q E s := by
  refine meth1 (wpAny_mono h (fun ov s1 h1 => ?_) fun _ _ e => e) hbase hline hs
  obtain ⟨a, vs, rfl, ⟨n, ho⟩, hsz, hv⟩ := h1
  refine ⟨"list", "list.append", PySem.F.plainAttrs_list, PySem.F.slot_list_append, PySem.F.type_list_append, ⟨_, ho, rfl⟩, IsList.noDict' ho, wpAny_mono hv (fun v s2 h2 => ?_) fun _ _ e => e⟩
  obtain ⟨⟨n2, ho2⟩, hQ⟩ := h2
  refine wpAny_call_entry PySem.F.slot_list_append ⟨_, ho2, rfl⟩ PySem.F.entry_list_append ?_ (PySem.F.args_list_append_2 _ _)
  show wpAny _ _ (updateSeq a (·.push v) >>= fun _ => ret .none) _ _ s2
  have g := get?_update_seq ho2 (·.push v)
  have g' : PL (s2.heap.update a (Obj.mapSeq (·.push v))) a (vs ++ [v]) := ⟨_, by simpa using g⟩
  refine wpAny_bind (wpAny_updateSeq ho2 rfl (wpAny_pure ⟨.none, rfl, hQ _ g' (Heap.SameBut.update ..)⟩) (by rw [List.size_toArray, sizeLine_eq]; omega) (by show (vs.toArray.push v).size ≤ sizeLine + 1; rw [Array.size_push, List.size_toArray, sizeLine_eq]; omega))

theorem refs_any {h : Heap} {rs : List Addr} {ps : List (Int × Int)} (T : Tups h rs ps) (q : Int × Int) : ((rs.map Value.ref).toArray.any fun v => decide (cT h v = code q)) = decide (∃ p, p ∈ ps ∧ code p = code q) := by
  rw [List.any_toArray, Bool.eq_iff_iff, List.any_eq_true, decide_eq_true_eq]
  constructor
  · rintro ⟨v, hv, e⟩
    obtain ⟨r, hr, rfl⟩ := mem_refs hv
    obtain ⟨p, hp, t⟩ := T.memP r hr
    rw [cT_eq t, decide_eq_true_eq] at e
    exact ⟨p, hp, e⟩
  · rintro ⟨p, hp, e⟩
    obtain ⟨i, hi, rfl⟩ := List.mem_iff_getElem.mp hp
    have hi' : i < rs.length := by rw [T.length]; exact hi
    obtain ⟨q', hq', t⟩ := T.get (List.getElem?_eq_getElem hi')
    rw [List.getElem?_eq_getElem hi] at hq'
    cases hq'
    exact ⟨_, ref_mem.mpr (List.getElem_mem hi'), by rw [cT_eq t]; simpa using e⟩

set_option maxHeartbeats 1000000 in
theorem law_plain {ax : Addr} {rs : List Addr} {ps : List (Int × Int)} (B : Base (KK w) s.heap) (hh : A.handled = none) (hroom : A.depth < recursionLimit) (hu : A.units + 50 < cLine) (hl : s.heap.IsList ax (rs.map Value.ref).toArray) (ht : Tups s.heap rs ps) (hs : ∀ p, p ∈ ps → Small p) (h12 : ps.length ≤ 12)
    (h : ∀ (h' : Heap) (tk : Nat) (r : Addr) (rs' : List Addr) (ps' : List (Int × Int)), Upto [] s.heap h' → s.heap.get? r = none → h'.IsList r (rs'.map Value.ref).toArray → Tups h' rs' ps' → (ps'.map code).Pairwise (· < ·) → (∀ p, p ∈ ps' ↔ p ∈ ps) → R (.ok (.ret (.ref r))) { s with heap := h', toks := tk }) :
    codeAny (model prog w) A (.call (.ref 98) ⟨[.ref ax], []⟩) R s := by
  refine call_fn B (a := 98) (o := _) rfl rfl (by kernel_rfl) hroom rfl (binds := [(Str.ofString "rows", .ref ax)]) (by rfl) rfl (fun n => by rfl) ?_
  intro h1 tk U1 hns c1 c2
  clear c1 c2
  have l1 : Loc h1 s.heap.objs.size [(Str.ofString "rows", .ref ax)] := Loc.of hns (List.forall_mem_cons.mpr ⟨rfl, fun _ h => nomatch h⟩)
  clear hns
  generalize hA : A.deeper _ = A'
  have hh' : A'.handled = none := by rw [← hA]; exact hh
  have hu' : A'.units + 47 < cLine := by rw [← hA]; show A.units + 3 + 47 < cLine; omega
  clear hA
  generalize hL : s.heap.objs.size = L at l1 ⊢
  have fL : s.heap.get? L = none := by rw [← hL]; exact get_none_size
  have base : ∀ h, Upto [L] h1 h → Base (KK w) h := fun h u => B.keeps fun b o e => u b o (by simpa using ne_of_none e fL) (U1 b o (by simp) e)
  -- told = []
  refine wpAny_execs_cons (wpAny_Assign_Name (emptyList ?_))
  dsimp only
  generalize ht0 : h1.objs.size = t
  generalize h2e : h1.push (seqObj "list" #[] 0) = h2
  have ft : h1.get? t = none := by rw [← ht0]; exact get_none_size
  have u12 : Upto [] h1 h2 := by rw [← h2e]; exact Upto.push _
  have p2 : PL h2 t [] := by rw [← h2e, ← ht0]; exact ⟨0, Heap.get?_push_size _ rfl⟩
  have neTL : t ≠ L := (l1.at u12 (by simp)).ne_pl p2
  refine stL (l1.at u12 (by simp)) fun h3 l3 sb3 => ?_
  dsimp only
  have u23 : Upto [L] h2 h3 := Upto.same sb3 (.head _)
  have u13 : Upto [L] h1 h3 := (u12.mono (by simp)).trans u23
  have p3 : PL h3 t [] := p2.at u23 (by simpa using neTL)
  have neaL : ax ≠ L := by obtain ⟨o, ho, _⟩ := hl; exact ne_of_none ho fL
  have hl1 := IsList.at hl U1 (by simp)
  have hl3 := IsList.at hl1 u13 (by simpa using neaL)
  have ht1 : Tups h1 rs ps := ht.at U1 (by simp)
  have hrL : ∀ r, r ∈ rs → r ≠ L := fun r hr => by
    obtain ⟨p, tp⟩ := ht.mem hr
    obtain ⟨o, ho, _⟩ := tp.get
    exact ne_of_none ho fL
  -- for row in rows
  refine wpAny_execs_cons (wpAny_For (ldL l3 rfl (wpAny_pyIter_list hl3 ?_)))
  generalize hI : (({ s with heap := h3, toks := _ } : Shared).heap).objs.size = I
  have hI' : h3.objs.size = I := hI
  clear hI
  generalize hio : ({ cls := Value.type "list_iterator", data := Data.fields #[Value.ref ax, Value.int 0 0] } : Obj) = io
  have fI : h3.get? I = none := by rw [← hI']; exact get_none_size
  have h4I : (h3.push io).get? I = some io := by rw [← hI']; exact Heap.get?_push_size _ (by rw [← hio]; rfl)
  have neI : ax ≠ I := by obtain ⟨o, ho, _⟩ := hl3; exact ne_of_none ho fI
  have neTI : t ≠ I := by obtain ⟨o, ho, _⟩ := p3.get; exact ne_of_none ho fI
  have neLI : L ≠ I := by obtain ⟨o, _, _, ho, _⟩ := l3.get; exact ne_of_none ho fI
  have f1I : h1.get? I = none := by
    cases e : h1.get? I with
    | none => rfl
    | some o => exact absurd (u13 I o (by simpa using neLI.symm) e) (by rw [fI]; simp)
  let J : Nat → Heap → Prop := fun i h => Upto [L] h1 h ∧ Loc h L [(Str.ofString "told", .ref t)] ∧ ∃ ts qs, PL h t (ts.map Value.ref) ∧ Tups h1 ts qs ∧ (∀ r, r ∈ ts → r ∈ rs) ∧ qs.Nodup ∧ (∀ p, p ∈ qs ↔ p ∈ ps.take i)
  have U4 : Upto [] h3 (h3.push io) := Upto.push io
  refine for_walk (Walks.list hh' I ax neI _) (J := J) ⟨⟨io, h4I, by rw [← hio], by rw [← hio]; rfl⟩, IsList.at hl3 U4 (by simp)⟩
    ⟨u13.trans (U4.mono (by simp)), (l3.at U4 (by simp)).pick ⟨rfl, trivial⟩, [], [], p3.at U4 (by simp), trivial, fun _ h => absurd h List.not_mem_nil, .nil, fun p => by simp⟩ ?_ ?_ ?_
  · rintro i h h' ⟨u, lo, ts, qs, pl, T, hr, hn, hm⟩ v
    exact ⟨u.write v fun b hb => .inl (by rw [List.mem_singleton.mp hb]; exact f1I), lo.at v (by simpa using neLI), ts, qs, pl.at v (by simpa using neTI), T, hr, hn, hm⟩
  · rintro i v h5 tk5 hi hv hst ⟨u5, l5, ts, qs, pl5, T5, hr5, hn5, hm5⟩
    obtain ⟨r, hr, rfl⟩ : ∃ r, rs[i]? = some r ∧ v = .ref r := by
      simp only [List.getElem?_toArray, List.getElem?_map, Option.map_eq_some_iff] at hv
      obtain ⟨r, h1, h2⟩ := hv
      exact ⟨r, h1, h2.symm⟩
    obtain ⟨p, hp, tp⟩ := ht1.get hr
    have hrm := List.mem_of_getElem? hr
    have hpm := List.mem_of_getElem? hp
    have hql : qs.length ≤ 12 := by
      have := nodup_sub_len (b := ps) hn5 fun q hq => List.mem_of_mem_take ((hm5 q).mp hq)
      omega
    have hsq : ∀ q, q ∈ qs → Small q := fun q hq => hs q (List.mem_of_mem_take ((hm5 q).mp hq))
    refine letOwn_name (wpAny_assign_Name (stL l5 fun h6 l6 sb6 => ?_))
    have u56 : Upto [L] h5 h6 := Upto.same sb6 (.head _)
    replace l6 : Loc h6 L _ := l6
    have u6 : Upto [L] h1 h6 := u5.trans u56
    have pl6 : PL h6 t (ts.map Value.ref) := pl5.at u56 (by simpa using neTL)
    have T6 : Tups h6 ts qs := T5.at u6 (fun r hr => by simpa using hrL r (hr5 r hr))
    have tp6 : TupAt h6 r p := tp.at u6 (by simpa using hrL r hrm)
    refine wpAny_execs_cons (wpAny_If (wpAny_isTrue_Compare1 (ldL l6 rfl (ldL l6 rfl (notIn_list (e := fun v => decide (cT h6 v = code p)) pl6.list (fun y hy => ?_) (wpAny_truthy_bool ?_))))))
    · obtain ⟨r', hr', rfl⟩ := mem_refs (by simpa using hy)
      obtain ⟨q, hq, tq⟩ := T6.memP r' hr'
      have e : decide (cT h6 (.ref r') = code p) = decide (q = p) := by
        rw [cT_eq tq, decide_eq_decide]
        exact ⟨fun e => code_inj (hsq q hq) (hs p hpm) e, fun e => by rw [e]⟩
      rw [e]
      exact eqAt_tup (by show A'.units + 1 < cLine; omega) tq tp6
    · rw [refs_any T6]
      have hback : ∀ h9, Upto [L, t] h5 h9 → ∀ b, b ∈ [I, ax] → ∀ o, h5.get? b = some o → h9.get? b = some o := by
        intro h9 u b hb o e
        refine u b o ?_ e
        have e1 : ax ≠ t := by obtain ⟨o, ho, _⟩ := hl1; exact ne_of_none ho ft
        rcases List.mem_cons.mp hb with rfl | hb
        · simp [neLI.symm, neTI.symm]
        · rw [List.mem_singleton.mp hb]; simp [neaL, e1]
      by_cases hin : ∃ q, q ∈ qs ∧ code q = code p
      · rw [decide_eq_true hin]
        simp only [Bool.not_true, Bool.false_eq_true, ↓reduceIte]
        have hpq : p ∈ qs := by
          obtain ⟨q, hq, e⟩ := hin
          rw [← code_inj (hsq q hq) (hs p hpm) e]; exact hq
        refine wpAny_execs_nil (wpAny_execs_nil ⟨h6, _, rfl, ⟨u6, l6.pick ⟨rfl, trivial⟩, ts, qs, pl6, T5, hr5, hn5, fun q => ?_⟩, hback h6 (u56.mono (by simp))⟩)
        rw [mem_take_succ hp, ← hm5]
        exact ⟨.inl, fun z => z.elim id fun e => e ▸ hpq⟩
      · rw [decide_eq_false hin]
        simp only [Bool.not_false, ↓reduceIte]
        have hpq : p ∉ qs := fun z => hin ⟨p, z, rfl⟩
        refine wpAny_execs_cons (wpAny_Expr (append_pl (ldL l6 rfl ⟨t, _, rfl, pl6, by rw [List.length_map, T5.length]; omega, ldL l6 rfl ⟨pl6, fun h7 pl7 sb7 => wpAny_execs_nil (wpAny_execs_nil ?_)⟩⟩)))
        have u67 : Upto [t] h6 h7 := Upto.same sb7 (.head _)
        refine ⟨h7, _, rfl, ⟨u6.write u67 fun b hb => .inl (by rw [List.mem_singleton.mp hb]; exact ft), (l6.at u67 (by simpa using neTL.symm)).pick ⟨rfl, trivial⟩, ts ++ [r], qs ++ [p], by rw [List.map_append]; exact pl7, T5.snoc tp, fun r' hr' => ?_, ?_, fun q => ?_⟩, hback h7 ((u56.mono (by simp)).trans (u67.mono (by simp)))⟩
        · rcases List.mem_append.mp hr' with z | z
          · exact hr5 r' z
          · rw [List.mem_singleton.mp z]; exact hrm
        · rw [List.nodup_append]
          refine ⟨hn5, by simp, fun x hx y hy => ?_⟩
          rw [List.mem_singleton.mp hy]
          rintro rfl
          exact hpq hx
        · rw [List.mem_append, List.mem_singleton, mem_take_succ hp, hm5]
  · rintro h' tk' ⟨u, lo, ts, qs, pl, T, hr, hn, hm⟩
    refine wpAny_execs_nil ?_
    have hqp : ∀ q, q ∈ qs ↔ q ∈ ps := fun q => by rw [hm, List.take_of_length_le (by simp [ht.length])]
    have hqlen : qs.length ≤ 12 := by
      have := nodup_sub_len (b := ps) hn fun q hq => (hqp q).mp hq
      omega
    have T' : Tups h' ts qs := T.at u fun r hr' => by simpa using hrL r (hr r hr')
    refine wpAny_execs_cons (wpAny_Return_some (callF1 (id := "sorted") (ldB (base _ u) g_sorted b_sorted (by decide) ⟨rfl, ldL lo rfl ?_⟩)))
    refine sorted_plist (s := { s with heap := h', toks := tk' }) pl.list T' hn (fun q hq => hs q ((hqp q).mp hq)) hqlen fun h9 tk9 r9 rs9 ps9 u9 f9 L9 T9 pw9 m9 => ?_
    have U9 : Upto [] s.heap h' := fun b o hb e => u b o (by simpa using ne_of_none e fL) (U1 b o (by simp) e)
    exact h h9 tk9 r9 rs9 ps9 (U9.trans u9) (none_of U9 f9) L9 T9 pw9 fun q => (m9 q).trans (hqp q)
end
end Mine
end

section
open PySem PySem.W PySem.Calls PyProof.Rows
set_option Elab.async false
set_option maxRecDepth 100000
namespace Mine

def unOwned (T : String) : Prop := (["enumerate", "zip", "dict_itemiterator", "dict_reverseitemiterator", "odict_iterator", "itertools.zip_longest", "itertools.pairwise"].contains T) = false
/-- what hands out pairs: a list or a set -/
def Src (w : World) (h : Heap) (x : Addr) (ps : List (Int × Int)) : Prop := (∃ rs, h.IsList x (rs.map Value.ref).toArray ∧ Tups h rs ps) ∨ PSet w (fun _ => True) h x ps
theorem Src.get {w : World} {h : Heap} {x : Addr} {ps : List (Int × Int)} (S : Src w h x ps) : ∃ o, h.get? x = some o ∧ (o.cls = .type "list" ∨ o.cls = .type "set") := by
  rcases S with ⟨rs, hl, _⟩ | hS
  · obtain ⟨o, ho, hc⟩ := IsList.get hl; exact ⟨o, ho, .inl hc⟩
  · obtain ⟨o, ho, hc⟩ := hS.get; exact ⟨o, ho, .inr hc⟩
theorem Src.at {w : World} {h h' : Heap} {x : Addr} {ps : List (Int × Int)} {xs : List Addr} (S : Src w h x ps) (u : Upto xs h h') (hx : x ∉ xs) (ht : ∀ r p, TupAt h r p → r ∉ xs) : Src w h' x ps := by
  rcases S with ⟨rs, hl, T⟩ | hS
  · exact .inl ⟨rs, IsList.at hl u hx, T.at u fun r hr => by obtain ⟨p, t⟩ := T.mem hr; exact ht r p t⟩
  · exact .inr (((hS.weak (G' := fun r => r ∉ xs) fun r p t _ => ht r p t).at u hx fun b hb g => g hb).weak fun _ _ _ _ => trivial)
theorem Src.keep {w : World} {h h' : Heap} {x : Addr} {ps : List (Int × Int)} (S : Src w h x ps) (u : Upto [] h h') : Src w h' x ps := S.at u (by simp) (by simp)
theorem Loc.ne_data {h : Heap} {L a : Addr} {bs : List (Str × Value)} {o : Obj} (l : Loc h L bs) (ho : h.get? a = some o) (hd : ∀ es ep, o.data ≠ .dict es ep) : a ≠ L := by
  obtain ⟨o', es, ep, ho', hd'⟩ := l.get
  exact data_ne ho ho' (by rw [hd']; exact hd es ep)
theorem Src.ne_loc {w : World} {h : Heap} {x L : Addr} {ps : List (Int × Int)} {bs : List (Str × Value)} (S : Src w h x ps) (l : Loc h L bs) : x ≠ L := by
  rcases S with ⟨rs, hl, _⟩ | ⟨es, ep, t, ho, O⟩
  · exact l.ne_list hl
  · exact l.ne_data ho fun _ _ e => nomatch e

section
variable {prog : Program} {w : World} {A : Around} {E : Value → Shared → Prop} {R : Result → Shared → Prop} {s : Shared} {env : Env} {bs : List (Str × Value)}

theorem src_iter {A' : Around} {x : Addr} {ps : List (Int × Int)} {Q : Value → Shared → Prop} (hh : A'.handled = none) (S : Src w s.heap x ps)
    (h : ∀ (I : Addr) (h' : Heap) (vs : List (Int × Int)) (St : Nat → Heap → Prop), Upto [] s.heap h' → s.heap.get? I = none → (∀ p, p ∈ vs ↔ p ∈ ps) →
      Walks prog w A' I [I, x] [I] vs.length (fun i v => ∃ p r, vs[i]? = some p ∧ v = .ref r ∧ TupAt s.heap r p) St → St 0 h' → (∀ i h, St i h → ∃ o T, h.get? I = some o ∧ o.cls = .type T ∧ unOwned T) → Q (.ref I) { s with heap := h' }) :
    wpAny (model prog w) A (pyIter (.ref x)) Q E s := by
  rcases S with ⟨rs, hl, T⟩ | hS
  · refine wpAny_pyIter_list hl ?_
    have fI : s.heap.get? s.heap.objs.size = none := get_none_size
    obtain ⟨ol, hol, _⟩ := IsList.get hl
    have ne : x ≠ s.heap.objs.size := ne_size hol
    have u : Upto [] s.heap (s.heap.push { cls := .type "list_iterator", data := .fields #[.ref x, .int 0 0] }) := Upto.push _
    have W := Walks.list (prog := prog) (w := w) hh s.heap.objs.size x ne (rs.map Value.ref).toArray
    have hsz : (rs.map Value.ref).toArray.size = ps.length := by simp [T.length]
    rw [hsz] at W
    refine h s.heap.objs.size _ ps (fun i h => h.IsListIter s.heap.objs.size x i ∧ h.IsList x (rs.map Value.ref).toArray) u fI (fun p => Iff.rfl) { W with item := fun i s Q E hi st hQ => W.item i s Q E hi st fun v h' tk hv => hQ v h' tk ?_ }
      ⟨⟨_, Heap.get?_push_size _ rfl, rfl, rfl⟩, IsList.at hl u (by simp)⟩ fun i h st => let ⟨o, ho, hc, _⟩ := st.1; ⟨o, _, ho, hc, by unfold unOwned; decide⟩
    simp only [List.getElem?_toArray, List.getElem?_map, Option.map_eq_some_iff] at hv
    obtain ⟨r, hr, rfl⟩ := hv
    obtain ⟨p, hp, t⟩ := T.get hr
    exact ⟨p, r, hp, rfl, t⟩
  · refine pset_iter hh hS fun I h' vs St u fI pl W st hcl => ?_
    refine h I h' vs St u fI (fun p => pl.mem_iff) { W with item := fun i s Q E hi st hQ => W.item i s Q E hi st fun v h' tk hv => hQ v h' tk ?_ } st fun i h st => let ⟨o, ho, hc⟩ := hcl i h st; ⟨o, _, ho, hc, by unfold unOwned; decide⟩
    obtain ⟨p, r, hp, e, t, _⟩ := hv
    exact ⟨p, r, hp, e, t⟩
end
end Mine
end

section
open PySem PySem.W PySem.Calls PyProof.Rows
set_option Elab.async false
set_option maxRecDepth 100000
namespace Mine

abbrev ddN : String := "collections.defaultdict"
abbrev ddS : Array (Option Value) := #[some (.type "set")]

section
variable {prog : Program} {w : World} {A : Around} {E : Value → Shared → Prop} {R : Result → Shared → Prop} {s : Shared} {env : Env} {bs : List (Str × Value)}

/-- edges[k].add(v) -/
theorem dd_add {en kn vn : Str} {ep kp sp ap vp cp xp : Pos} {d : Addr} {k x : Int} {t u : Tok} {m : List (Int × Addr)} {f : Int → List Int} {Q : Flow → Shared → Prop} (l : Loc s.heap env.locals bs) (T : Tb w s.heap d ddN ddS m f)
    (he : bs.lookup en = some (.ref d)) (hkn : bs.lookup kn = some (.int k t)) (hvn : bs.lookup vn = some (.int x u)) (hk : k ∈ six) (hx : x ∈ six) (hdL : d ≠ env.locals)
    (h : ∀ h' tk m' f', Upto (d :: m.map (·.2)) s.heap h' → Loc h' env.locals bs → Tb w h' d ddN ddS m' f' → (∀ k' x', x' ∈ f' k' ↔ x' ∈ f k' ∨ (k' = k ∧ x' = x)) → (∀ k', k' ∈ m'.map (·.1) ↔ k' ∈ m.map (·.1) ∨ k' = k) →
      (∀ p, p ∈ m' → p ∈ m ∨ s.heap.get? p.2 = none) → Q .next { s with heap := h', toks := tk })
    (hkind : env.scope.kind = .function := by rfl) (hl1 : env.kindOf en = some .local := by rfl) (hl2 : env.kindOf kn = some .local := by rfl) (hl3 : env.kindOf vn = some .local := by rfl)
    (hb1 : (en == ("__debug__" : Str)) = false := by decide) (hb2 : (kn == ("__debug__" : Str)) = false := by decide) (hb3 : (vn == ("__debug__" : Str)) = false := by decide)
    (hi : interactive env = false := by rfl) (hline : (ap.endLine == cp.line) = true := by rfl) :
    wpAny (model prog w) A (exec (.Expr (.Call (.Attribute (.Subscript (.Name en ep) (.Name kn kp) sp) (Str.ofString "add") ap) [.Name vn vp] [] cp) xp) env) Q E s := by
  have hmL : ∀ p, p ∈ m → p.2 ≠ env.locals := fun p hp => T.ne_loc l hp
  have main : ∀ (h1 : Heap) (tk1 : Nat) (m1 : List (Int × Addr)) (a : Addr), Upto [d] s.heap h1 → Tb w h1 d ddN ddS m1 f → look m1 k = some a → (∀ k', k' ∈ m1.map (·.1) ↔ k' ∈ m.map (·.1) ∨ k' = k) → (∀ p, p ∈ m1 → p ∈ m ∨ s.heap.get? p.2 = none) →
      ∃ T' id, PlainAttrs T' ∧ Slot T' (Str.ofString "add") id ∧ typeOf (.builtin id) = pure (.type "method_descriptor") ∧ Shared.TypeIs { s with heap := h1, toks := tk1 } (.ref a) T' ∧ (∀ b, Value.ref a = .ref b → ∃ ob, h1.get? b = some ob ∧ ob.dict = none) ∧
        wpAny (model prog w) A (eval (.Name vn vp) env) (fun v s2 => wpAny (model prog w) A (call (.builtin id) [.ref a, v]) (fun v s' => match v with | .ref _ => False | _ => Q .next s') E s2) E { s with heap := h1, toks := tk1 } := by
    intro h1 tk1 m1 a u1 T1 hlk hkeys hfr
    have ham := look_mem hlk
    have hSa := T1.set _ ham
    have l1 : Loc h1 env.locals bs := l.at u1 (by simpa using hdL.symm)
    refine ⟨"set", "set.add", PySem.F.plainAttrs_set, PySem.F.slot_set_add, PySem.F.type_set_add, ISet.type (s := { s with heap := h1, toks := tk1 }) hSa, ISet.noDict (s := { s with heap := h1, toks := tk1 }) hSa, ldL l1 hvn (call_add hSa hx fun h2 l2 sb2 S2 m2 => ?_) hkind hl3 hb3⟩
    have u2 : Upto [a] h1 h2 := Upto.same sb2 (.head _)
    have haL : a ≠ env.locals := l1.ne_set hSa
    refine h h2 _ m1 _ ?_ (l1.at u2 (by simpa using haL.symm)) (T1.grow (by decide) hlk sb2 S2) (fun k' x' => ?_) hkeys hfr
    · refine (u1.mono (by simp)).write u2 fun b hb => ?_
      rw [List.mem_singleton.mp hb]
      rcases hfr _ ham with z | z
      · exact .inr (.tail _ (List.mem_map.mpr ⟨_, z, rfl⟩))
      · exact .inl z
    · show (x' ∈ if k' = k then l2 else f k') ↔ _
      by_cases e : k' = k
      · rw [if_pos e, m2]
        subst e
        exact ⟨fun z => z.elim .inl fun z => .inr ⟨rfl, z⟩, fun z => z.elim .inl fun z => .inr z.2⟩
      · rw [if_neg e]
        exact ⟨.inl, fun z => z.elim id fun z => absurd z.1 e⟩
  obtain ⟨ep0, D⟩ := T.dt
  refine wpAny_Expr (meth1 (wpAny_Subscript_Name (T := ddN) (id := "dict.__getitem__") DD.slot_getitem.lookup (ldL l he (ldL l hkn ⟨D.type, ?_⟩ hkind hl2 hb2) hkind hl1 hb1)) rfl hline rfl) hi rfl
  cases hlk : look m k with
  | some a =>
    have hkm : k ∈ m.map (·.1) := List.mem_map.mpr ⟨_, look_mem hlk, rfl⟩
    exact getItem_hit D hlk (main s.heap _ m a (Upto.refl _ _) T hlk (fun k' => ⟨.inl, fun z => z.elim id fun e => e ▸ hkm⟩) fun p hp => .inl hp)
  | none =>
    have fn : s.heap.get? s.heap.objs.size = none := get_none_size
    refine getItem_miss D hlk (by have := T.len; omega) fun h1 tk1 u1 D1 e1 _ => ?_
    have T1 : Tb w h1 d ddN ddS (m ++ [(k, s.heap.objs.size)]) f := T.fresh u1 D1 (by decide) e1 (fun p hp => by obtain ⟨o, ho, _⟩ := T.sets hp; exact ne_of_none ho fn) hlk (six_eight hk)
    refine main h1 tk1 _ s.heap.objs.size u1 T1 (look_of D1.nodup (List.mem_append_right _ (List.mem_singleton.mpr rfl))) (fun k' => ?_) fun p hp => ?_
    · rw [List.map_append, List.mem_append]
      simp
    · rcases List.mem_append.mp hp with z | z
      · exact .inl z
      · rw [List.mem_singleton.mp z]; exact .inr fn

/-- for a, b in src: edges[..].add(..) -/
theorem dd_for {n1 n2 en kn vn sn : Str} {p1 p2 tp snp ep kp sp ap vp cp xp fp : Pos} {kk : Nat} {X d : Addr} {ps : List (Int × Int)} {b : Bool} {bk : List (Str × Value)} {Q : Flow → Shared → Prop}
    (hh : A.handled = none) (l : Loc s.heap env.locals bk) (S : Src w s.heap X ps) (hs : ∀ p, p ∈ ps → Small p) (T : Tb w s.heap d ddN ddS [] (fun _ => [])) (hdL : d ≠ env.locals) (hXL : X ≠ env.locals)
    (hsub : ∀ v1 v2 : Value, Sub ((n2, v2) :: (n1, v1) :: bk) bk) (hX : bk.lookup sn = some (.ref X)) (he : ∀ v1 v2 : Value, List.lookup en ((n2, v2) :: (n1, v1) :: bk) = some (.ref d))
    (hkn : ∀ v1 v2 : Value, List.lookup kn ((n2, v2) :: (n1, v1) :: bk) = some (if b then v1 else v2)) (hvn : ∀ v1 v2 : Value, List.lookup vn ((n2, v2) :: (n1, v1) :: bk) = some (if b then v2 else v1))
    (h : ∀ h' tk m f, Upto [env.locals, d] s.heap h' → Loc h' env.locals bk → Tb w h' d ddN ddS m f → (∀ k x, x ∈ f k ↔ ∃ p, p ∈ ps ∧ kvOf b p = (k, x)) → (∀ k, k ∈ m.map (·.1) ↔ ∃ x, x ∈ f k) → (∀ p, p ∈ m → s.heap.get? p.2 = none) → Q .next { s with heap := h', toks := tk })
    (hkind : env.scope.kind = .function := by rfl) (hl0 : env.kindOf sn = some .local := by rfl) (hn1 : env.kindOf n1 = some .local := by rfl) (hn2 : env.kindOf n2 = some .local := by rfl)
    (hl1 : env.kindOf en = some .local := by rfl) (hl2 : env.kindOf kn = some .local := by rfl) (hl3 : env.kindOf vn = some .local := by rfl)
    (hp : (env.scope.kind == .class || (env.scope.kind == .module && env.locals != env.globals)) = false := by rfl)
    (hb0 : (sn == ("__debug__" : Str)) = false := by decide) (hb1 : (en == ("__debug__" : Str)) = false := by decide) (hb2 : (kn == ("__debug__" : Str)) = false := by decide) (hb3 : (vn == ("__debug__" : Str)) = false := by decide)
    (hi : interactive env = false := by rfl) (hline : (ap.endLine == cp.line) = true := by rfl) :
    wpAny (model prog w) A (exec (.For (.Tuple [.Name n1 p1, .Name n2 p2] kk tp) (.Name sn snp) [.Expr (.Call (.Attribute (.Subscript (.Name en ep) (.Name kn kp) sp) (Str.ofString "add") ap) [.Name vn vp] [] cp) xp] [] fp) env) Q E s := by
  refine wpAny_For (ldL l hX (src_iter (A' := A) hh S fun I h1 vs St u1 fI hvs W st hcl => ?_) hkind hl0 hb0)
  obtain ⟨od, hod, _⟩ := T.get
  obtain ⟨oX, hoX, hcX⟩ := S.get
  obtain ⟨oL, esL, epL, hoL, hdL'⟩ := l.get
  have neLI : env.locals ≠ I := ne_of_none hoL fI
  have nedI : d ≠ I := ne_of_none hod fI
  have neXI : X ≠ I := ne_of_none hoX fI
  have neXd : X ≠ d := by
    refine cls_ne hoX hod ?_
    obtain ⟨o', ho', hc'⟩ := T.get
    rw [hod] at ho'; cases ho'
    rw [hc']
    rcases hcX with e | e <;> rw [e] <;> decide
  let J : Nat → Heap → Prop := fun i h => Upto [env.locals, d] s.heap h ∧ Loc h env.locals bk ∧ ∃ m f, Tb w h d ddN ddS m f ∧ (∀ k x, x ∈ f k ↔ ∃ p, p ∈ vs.take i ∧ kvOf b p = (k, x)) ∧ (∀ k, k ∈ m.map (·.1) ↔ ∃ x, x ∈ f k) ∧ ∀ p, p ∈ m → s.heap.get? p.2 = none ∧ p.2 ≠ I
  refine for_walk W (J := J) st ⟨u1.mono (by simp), l.at u1 (by simp), [], _, T.at u1 (by simp) (by simp), fun k x => by simp, fun k => by simp, fun p hp => absurd hp List.not_mem_nil⟩ ?_ ?_ ?_
  · rintro i h h' ⟨u, lo, m, f, T, hf, hm, hfr⟩ v
    exact ⟨u.write v fun b hb => .inl (by rw [List.mem_singleton.mp hb]; exact fI), lo.at v (by simpa using neLI), m, f, T.at v (by simpa using nedI) (fun p hp => by simpa using (hfr p hp).2), hf, hm, hfr⟩
  · rintro i v h2 tk2 hi2 ⟨p, r, hpi, rfl, tp⟩ hst ⟨u2, l2, m, f, T2, hf2, hm2, hfr2⟩
    obtain ⟨oI, TI, hoI, hcI, hTI⟩ := hcl _ _ hst
    refine letOwn_pair hoI hcI hTI ?_
    have hpps : p ∈ ps := (hvs p).mp (List.mem_of_getElem? hpi)
    have hrL : r ≠ env.locals := l.ne_tup tp
    have hrd : r ≠ d := by
      obtain ⟨o', ho', hc'⟩ := tp.get
      obtain ⟨o2, ho2, hc2⟩ := T.get
      exact cls_ne ho' ho2 (by rw [hc', hc2]; decide)
    obtain ⟨t1, t2, htup⟩ := (tp.at u2 (by simp [hrL, hrd])).tuple
    refine assign2 hh htup l2 (fun h3 tk3 l3 u3 => ?_) hn1 hn2 hp
    have T3 : Tb w h3 d ddN ddS m f := T2.at u3 (by simpa using hdL) (fun p hp => by simpa using T2.ne_loc l2 hp)
    have hkv := kv_small (b := b) (hs p hpps)
    have ek : (if b then Value.int p.1 t1 else Value.int p.2 t2) = .int (kvOf b p).1 (if b then t1 else t2) := by cases b <;> rfl
    have ev : (if b then Value.int p.2 t2 else Value.int p.1 t1) = .int (kvOf b p).2 (if b then t2 else t1) := by cases b <;> rfl
    refine wpAny_execs_cons (dd_add l3 T3 (he _ _) ((hkn _ _).trans (congrArg some ek)) ((hvn _ _).trans (congrArg some ev)) hkv.1 hkv.2 hdL (fun h4 tk4 m' f' u4 l4 T4 hf4 hm4 hfr4 => ?_) hkind hl1 hl2 hl3 hb1 hb2 hb3 hi hline)
    refine wpAny_execs_nil ⟨h4, tk4, rfl, ⟨?_, l4.pick (hsub _ _), m', f', T4, fun k x => ?_, fun k => ?_, fun q hq => ?_⟩, fun bb hb o e => ?_⟩
    · refine (u2.trans (u3.mono (by simp))).write u4 fun bb hb => ?_
      rcases List.mem_cons.mp hb with rfl | hb
      · exact .inr (by simp)
      · obtain ⟨q, hq, rfl⟩ := List.mem_map.mp hb
        exact .inl (hfr2 q hq).1
    · rw [hf4, hf2]
      constructor
      · rintro (⟨p', hp', e⟩ | ⟨e1, e2⟩)
        · exact ⟨p', (mem_take_succ hpi).mpr (.inl hp'), e⟩
        · exact ⟨p, (mem_take_succ hpi).mpr (.inr rfl), by rw [e1, e2]⟩
      · rintro ⟨p', hp', e⟩
        rcases (mem_take_succ hpi).mp hp' with z | rfl
        · exact .inl ⟨p', z, e⟩
        · rw [e]; exact .inr ⟨rfl, rfl⟩
    · rw [hm4, hm2]
      constructor
      · rintro (⟨x, hx⟩ | rfl)
        · exact ⟨x, (hf4 _ _).mpr (.inl hx)⟩
        · exact ⟨_, (hf4 _ _).mpr (.inr ⟨rfl, rfl⟩)⟩
      · rintro ⟨x, hx⟩
        rcases (hf4 _ _).mp hx with z | z
        · exact .inl ⟨x, z⟩
        · exact .inr z.1
    · rcases hfr4 q hq with z | z
      · exact hfr2 q z
      · have h3I : h3.get? I = some oI := u3.at hoI (by simpa using neLI.symm)
        refine ⟨?_, fun e => by rw [e] at z; dsimp only at z; rw [h3I] at z; cases z⟩
        cases e : s.heap.get? q.2 with
        | none => rfl
        | some o =>
          exfalso
          have e1 : q.2 ≠ env.locals := T4.ne_loc l4 hq
          have e2 : q.2 ≠ d := T4.ne_d (by decide) hq
          have z1 := u2 q.2 o (by simp [e1, e2]) e
          have z2 := u3 q.2 o (by simpa using e1) z1
          dsimp only at z
          rw [z2] at z; cases z
    · have hbL : bb ≠ env.locals := by
        rcases List.mem_cons.mp hb with rfl | hb
        · exact neLI.symm
        · rw [List.mem_singleton.mp hb]; exact hXL
      have hbd : bb ≠ d := by
        rcases List.mem_cons.mp hb with rfl | hb
        · exact nedI.symm
        · rw [List.mem_singleton.mp hb]; exact neXd
      have hbm : bb ∉ m.map (·.2) := by
        intro hm
        obtain ⟨q, hq, e⟩ := List.mem_map.mp hm
        rcases List.mem_cons.mp hb with rfl | hb
        · exact (hfr2 q hq).2 e
        · rw [List.mem_singleton.mp hb] at e
          rw [← e] at hoX
          rw [(hfr2 q hq).1] at hoX; cases hoX
      exact u4 bb o (by simp [hbd]; simpa using hbm) (u3 bb o (by simpa using hbL) e)
  · rintro h' tk' ⟨u, lo, m, f, T, hf, hm, hfr⟩
    refine wpAny_execs_nil (h h' tk' m f u lo T (fun k x => ?_) hm fun p hp => (hfr p hp).1)
    rw [hf, List.take_length]
    exact ⟨fun ⟨p, hp, e⟩ => ⟨p, (hvs p).mp hp, e⟩, fun ⟨p, hp, e⟩ => ⟨p, (hvs p).mpr hp, e⟩⟩
end
end Mine
end

section
open PySem PySem.W PySem.Calls PyProof.Rows
set_option Elab.async false
set_option maxRecDepth 100000
namespace Mine

/-- a list of ints -/
def IL (h : Heap) (a : Addr) (ns : List Int) : Prop := ∃ vs, PL h a vs ∧ IntsAre vs ns
theorem IL.at {h h' : Heap} {a : Addr} {ns : List Int} {xs : List Addr} (x : IL h a ns) (u : Upto xs h h') (ha : a ∉ xs) : IL h' a ns := let ⟨vs, p, i⟩ := x; ⟨vs, p.at u ha, i⟩
theorem IL.get {h : Heap} {a : Addr} {ns : List Int} (x : IL h a ns) : ∃ o, h.get? a = some o ∧ o.cls = .type "list" := let ⟨_, p, _⟩ := x; p.get
theorem Loc.ne_il {h : Heap} {L a : Addr} {ns : List Int} {bs : List (Str × Value)} (l : Loc h L bs) (x : IL h a ns) : a ≠ L := let ⟨_, p, _⟩ := x; l.ne_pl p
theorem ints_append {vs us : List Value} {ns ms : List Int} (h1 : IntsAre vs ns) (h2 : IntsAre us ms) : IntsAre (vs ++ us) (ns ++ ms) := by
  induction h1 with
  | nil => exact h2
  | cons n t _ ih => exact .cons n t ih
theorem ints_drop {vs : List Value} {ns : List Int} (h : IntsAre vs ns) : ∀ k, IntsAre (vs.drop k) (ns.drop k) := by
  induction h with
  | nil => intro k; simp; exact .nil
  | cons n t h ih =>
    intro k
    cases k with
    | zero => exact .cons n t h
    | succ k => exact ih k
theorem ints_take {vs : List Value} {ns : List Int} (h : IntsAre vs ns) : ∀ k, IntsAre (vs.take k) (ns.take k) := by
  induction h with
  | nil => intro k; simp; exact .nil
  | cons n t h ih =>
    intro k
    cases k with
    | zero => exact .nil
    | succ k => exact .cons n t (ih k)
theorem ints_get {vs : List Value} {ns : List Int} (h : IntsAre vs ns) : ∀ {i : Nat} {n : Int}, ns[i]? = some n → ∃ t, vs[i]? = some (.int n t) := by
  induction h with
  | nil => intro i n e; simp at e
  | cons m t _ ih =>
    intro i n e
    cases i with
    | zero => simp at e; exact ⟨t, by rw [e]; rfl⟩
    | succ i => exact ih (by simpa using e)
theorem ints_any {vs : List Value} {ns : List Int} (h : IntsAre vs ns) (n : Int) : (vs.toArray.any fun v => decide (cI v = n)) = decide (n ∈ ns) := by
  rw [List.any_toArray, Bool.eq_iff_iff, List.any_eq_true, decide_eq_true_eq]
  have e := ints_cI h
  constructor
  · rintro ⟨v, hv, q⟩
    rw [decide_eq_true_eq] at q
    rw [← e, ← q]
    exact List.mem_map.mpr ⟨v, hv, rfl⟩
  · intro hn
    rw [← e] at hn
    obtain ⟨v, hv, q⟩ := List.mem_map.mp hn
    exact ⟨v, hv, by rw [decide_eq_true_eq]; exact q⟩

section
variable {prog : Program} {w : World} {A : Around} {E : Value → Shared → Prop} {s : Shared} {a : Addr} {ns : List Int} {env : Env}

theorem entry_set_contains : entryFor table "set.__contains__" = some Builtin.«frozenset.__contains__» :=
  alias_tree (id' := "frozenset.__contains__") (by kernel_rfl) rfl (by decide +kernel) (by kernel_rfl)
/-- k in a set of ints -/
theorem in_iset {c : Bool} {l : List Int} {k : Int} {t : Tok} {Q : Value → Shared → Prop} (hS : ISet w c s.heap a l) (h : Q (.bool (decide (k ∈ l))) { s with toks := s.toks + 1 }) :
    wpAny (model prog w) A (compareOp .In (.int k t) (.ref a)) Q E s := by
  show wpAny _ _ (do return .bool (← contains (.ref a) (.int k t))) Q E s
  refine wpAny_bind ?_
  unfold contains
  refine wpAny_holding ?_
  refine wpAny_bind (wpAny_specialOf hS.type PySem.F.slot_set_contains.lookup ?_)
  show wpAny _ _ (if (some (Value.builtin "set.__contains__") == some Value.none) = true then _ else _) _ E s
  rw [if_neg (by rw [beq_builtin_none]; exact Bool.false_ne_true)]
  refine wpAny_bind (wpAny_callSpecialUnlessNone?_slot (name := Str.ofString "__contains__") hS.type PySem.F.slot_set_contains
    (wpAny_call_entry PySem.F.slot_set_contains hS.type entry_set_contains ?_ (PySem.F.args_set_contains_2 _ _)))
  unfold Builtin.«frozenset.__contains__» Builtin.Frozenset.oneOther Builtin.Frozenset.addrOf
  refine wpAny_bind (wpAny_bind (wpAny_pure (wpAny_pure ?_)))
  dsimp only
  unfold Builtin.Frozenset.withSetAsKey
  refine wpAny_bind (wpAny_tryCatch ?_)
  unfold setContains
  refine wpAny_holding (wpAny_bind ((intKind prog w).pyHash (k := k) (intKind_is _ _ _ _) ?_))
  refine wpAny_bind (wpAny_setFind_of (knd := intKind prog w) (k := k) (s := { s with toks := s.toks + 1 }) (by simp [intKind, Value.isInt]) rfl hS.setOf fun r hr => ?_)
  refine wpAny_pure ?_
  rw [hr]
  exact wpAny_pure ⟨_, rfl, wpAny_truthy_bool (wpAny_pure h)⟩

theorem il_truthy {Q : Bool → Shared → Prop} (x : IL s.heap a ns) (hsz : ns.length ≤ 1000) (h : Q (!ns.isEmpty) { s with toks := s.toks + 1 + 1 }) : wpAny (model prog w) A (truthy (.ref a)) Q E s := by
  obtain ⟨vs, p, i⟩ := x
  have hl := i.length
  refine wpAny_truthy_list p.list (by rw [List.size_toArray]; omega) ?_
  have : vs.toArray.isEmpty = ns.isEmpty := by cases i <;> rfl
  rw [this]; exact h
theorem il_in {k : Int} {t : Tok} {Q : Value → Shared → Prop} (x : IL s.heap a ns) (h : Q (.bool (decide (k ∈ ns))) s) : wpAny (model prog w) A (compareOp .In (.int k t) (.ref a)) Q E s := by
  obtain ⟨vs, p, i⟩ := x
  refine in_list (e := fun v => decide (cI v = k)) p.list (fun y hy => ?_) ?_
  · obtain ⟨n, u, rfl⟩ := i.all y (by simpa using hy)
    have : decide (cI (.int n u) = k) = (n == k) := rfl
    rw [this]
    exact eqAt_int n k u t
  · rw [ints_any i]; exact h
/-- l[-1] -/
theorem il_last {o : Expr} {kd : Nat} {cp up sp : Pos} {k : Int} {Q : Value → Shared → Prop} (hlast : ns.getLast? = some k) (hsz : ns.length ≤ 1000)
    (h : wpAny (model prog w) A (eval o env) (fun ov s1 => ov = .ref a ∧ IL s1.heap a ns ∧ ∀ t tk, Q (.int k t) { s1 with toks := tk }) E s) (ht : ∀ x r, letTemporaryGo o x r = pure () := by intro _ _; rfl) :
    wpAny (model prog w) A (eval (.Subscript o (.UnaryOp .USub (.Constant (.int 1) kd cp) up) sp) env) Q E s := by
  rw [eval_Subscript]
  refine wpAny_bind (wpAny_mono h (fun ov s1 h1 => wpAny_bind (wpAny_holding (wpAny_UnaryOp (wpAny_Constant_int (neg_int (wpAny_bind (wpAny_standAt ?_))))))) fun _ _ x => x)
  obtain ⟨rfl, ⟨vs, p, i⟩, hQ⟩ := h1
  have hT : Shared.TypeIs { s1 with toks := s1.toks + 1 + 1 } (.ref a) "list" := p.list.typeIs
  refine wpAny_bind ?_
  rw [getitemInPython_of_ne hT.not_modules]
  refine wpAny_bind (wpAny_specialOf hT slot_list_getitem.lookup ?_)
  have hl := i.length
  have hne : ns.length ≠ 0 := by
    intro e
    have : ns = [] := List.length_eq_zero_iff.mp e
    rw [this] at hlast; cases hlast
  obtain ⟨t, ht'⟩ := ints_get i (i := ns.length - 1) (n := k) (by rw [← List.getLast?_eq_getElem?]; exact hlast)
  have fin : wpAny (model prog w) A (operate [.ref a, .int (-1) (s1.toks + 1)] (getItem (.ref a) (.int (-1) (s1.toks + 1)))) (fun r s₃ => wpAny (model prog w) A (letTemporaryGo o (.ref a) r >>= fun _ => pure r) Q E s₃) E { s1 with toks := s1.toks + 1 + 1 } := by
    refine wpAny_operating (wpAny_getItem_list_neg (x := .int k t) p.list (by decide) (by rw [List.size_toArray]; omega) (by decide) ?_ (wpAny_bind (wpAny_of_eq (ht _ _) (wpAny_pure (hQ t _)))))
    rw [List.size_toArray, show ((-1 : Int) + (vs.length : Int)).toNat = ns.length - 1 by omega, List.getElem?_toArray]
    exact ht'
  first
    | exact wpAny_pure (wpAny_bind fin)
    | exact wpAny_bind (wpAny_pure (wpAny_bind fin))
    | exact wpAny_bind fin
/-- l.index(k) -/
theorem il_index {k : Int} {t : Tok} {Q : Value → Shared → Prop} (x : IL s.heap a ns) (hk : k ∈ ns) (hsz : ns.length ≤ 1000)
    (h : ∀ j t tk, ns[j]? = some k → Q (.int (j : Nat) t) { s with toks := tk }) : wpAny (model prog w) A (call (.builtin "list.index") [.ref a, .int k t]) Q E s := by
  obtain ⟨vs, ⟨n, ho⟩, i⟩ := x
  have hl := i.length
  obtain ⟨j, hj⟩ : ∃ j, ns.findIdx? (fun y => decide (y = k)) = some j := by
    cases e : ns.findIdx? (fun y => decide (y = k)) with
    | some j => exact ⟨j, rfl⟩
    | none =>
      have := List.findIdx?_eq_none_iff.mp e k hk
      simp at this
  obtain ⟨hjl, hje, hjm⟩ := List.findIdx?_eq_some_iff_getElem.mp hj
  simp only [decide_eq_true_eq] at hje hjm
  have hjs : j < vs.toArray.size := by rw [List.size_toArray]; omega
  have hat : ∀ m (hm : m < vs.toArray.size), cI vs.toArray[m] = ns[m]'(by rw [List.size_toArray] at hm; omega) := fun m hm => by
    rw [List.size_toArray] at hm
    have e := ints_cI i
    have : (vs.map cI)[m]'(by rw [List.length_map]; exact hm) = ns[m]'(by omega) := by simp only [e]
    rw [List.getElem_map] at this
    simpa using this
  refine call_meets PySem.F.slot_list_index ⟨_, ho, rfl⟩ PySem.F.entry_list_index (PySem.F.args_list_index_2 _ _) (SeqAt.list_indexAt a vs.toArray n none #[] _ (fun v => decide (cI v = k)) j hjs (by omega) ?_ ?_) ⟨ho, fun y hy => ?_, ?_⟩
  · rw [hat j hjs, decide_eq_true_eq]; exact hje
  · intro m hm hmj
    rw [hat m hm, decide_eq_false_iff_not]
    exact hjm m hmj
  · obtain ⟨n', u, rfl⟩ := i.all y (by simpa using hy)
    have : decide (cI (.int n' u) = k) = (n' == k) := rfl
    rw [this]
    exact eqAt_int n' k u t
  · exact h j _ _ (by rw [List.getElem?_eq_getElem hjl, hje])
/-- l.pop() -/
theorem il_pop {Q : Value → Shared → Prop} (x : IL s.heap a ns) (hne : ns ≠ []) (hsz : ns.length ≤ 1000)
    (h : ∀ h' k t, IL h' a ns.dropLast → Heap.SameBut a s.heap h' → Q (.int k t) { s with heap := h' }) : wpAny (model prog w) A (call (.builtin "list.pop") [.ref a]) Q E s := by
  obtain ⟨vs, ⟨n, ho⟩, i⟩ := x
  have hl := i.length
  have hn0 : ns.length ≠ 0 := fun e => hne (List.length_eq_zero_iff.mp e)
  obtain ⟨k, hk⟩ : ∃ k, ns[ns.length - 1]? = some k := ⟨_, List.getElem?_eq_getElem (by omega)⟩
  obtain ⟨t, ht⟩ := ints_get i hk
  refine call_meets PySem.F.slot_list_pop ⟨_, ho, rfl⟩ PySem.F.entry_list_pop (PySem.F.args_list_pop_1 _) (MeetsSeq.list_pop_last a vs.toArray n (.int k t) (by rw [List.size_toArray, hl, List.getElem?_toArray]; exact ht) (by rw [List.size_toArray, sizeLine_eq]; omega)) ⟨ho, ?_⟩
  have e : vs.toArray.eraseIdxIfInBounds (vs.toArray.size - 1) = vs.dropLast.toArray := by
    unfold Array.eraseIdxIfInBounds
    rw [dif_pos (by rw [List.size_toArray]; omega)]
    apply Array.ext'
    simp [List.dropLast_eq_take, List.eraseIdx_eq_take_drop_succ]
    omega
  have g := get?_update_seq ho (fun xs => xs.eraseIdxIfInBounds (vs.toArray.size - 1))
  rw [e] at g
  have g' : PL (s.heap.update a (Obj.mapSeq fun xs => xs.eraseIdxIfInBounds (vs.toArray.size - 1))) a vs.dropLast := ⟨_, g⟩
  refine h _ k t ⟨vs.dropLast, g', ?_⟩ (Heap.SameBut.update ..)
  rw [List.dropLast_eq_take, List.dropLast_eq_take, hl]
  exact ints_take i _
end
end Mine
end

section
set_option Elab.async false
namespace Mine

inductive Path (f : Int → List Int) : Int → Int → Prop
  | one {a b : Int} : b ∈ f a → Path f a b
  | cons {a b c : Int} : b ∈ f a → Path f b c → Path f a c
theorem Path.trans {f : Int → List Int} {a b c : Int} (x : Path f a b) (y : Path f b c) : Path f a c := by
  induction x with
  | one h => exact .cons h y
  | cons h _ ih => exact .cons h (ih y)
theorem Path.congr {f g : Int → List Int} (e : ∀ k x, x ∈ f k ↔ x ∈ g k) {a b : Int} (x : Path f a b) : Path g a b := by
  induction x with
  | one h => exact .one ((e _ _).mp h)
  | cons h _ ih => exact .cons ((e _ _).mp h) ih
def Chain (f : Int → List Int) (S : List Int) : Prop := ∀ i x y, S[i]? = some x → S[i + 1]? = some y → y ∈ f x
theorem chain_path {f : Int → List Int} {S : List Int} (h : Chain f S) : ∀ (k i : Nat) (x y : Int), S[i]? = some x → S[i + k + 1]? = some y → Path f x y
  | 0, i, x, y, hx, hy => .one (h i x y hx hy)
  | k + 1, i, x, y, hx, hy => by
    have hlt : i + 1 < S.length := by
      obtain ⟨q, _⟩ := List.getElem?_eq_some_iff.mp hy
      omega
    exact .cons (h i x S[i + 1] hx (List.getElem?_eq_getElem hlt)) (chain_path h k (i + 1) _ y (List.getElem?_eq_getElem hlt) (by rw [show i + 1 + k + 1 = i + (k + 1) + 1 by omega]; exact hy))
theorem cyc_sound {f : Int → List Int} {S : List Int} {top y x : Int} {j : Nat} (h : Chain f S) (ht : S.getLast? = some top) (hy : y ∈ f top) (hj : S[j]? = some y) (hx : x ∈ S.drop j) : Path f x x := by
  obtain ⟨m, hm, rfl⟩ := List.mem_iff_getElem.mp hx
  rw [List.length_drop] at hm
  rw [List.getElem_drop]
  have hl : S.length ≠ 0 := by omega
  rw [List.getLast?_eq_getElem?] at ht
  have e1 : S[j + m]? = some S[j + m] := List.getElem?_eq_getElem (by omega)
  -- from x to top
  have p1 : S[j + m] = top ∨ Path f S[j + m] top := by
    rcases Nat.lt_or_ge (j + m) (S.length - 1) with q | q
    · exact .inr (chain_path h (S.length - 1 - (j + m) - 1) (j + m) _ _ e1 (by rw [show j + m + (S.length - 1 - (j + m) - 1) + 1 = S.length - 1 by omega]; exact ht))
    · have : j + m = S.length - 1 := by omega
      rw [← this, e1] at ht
      exact .inl (Option.some.inj ht)
  have p2 : y = S[j + m] ∨ Path f y S[j + m] := by
    rcases Nat.eq_zero_or_pos m with q | q
    · subst q
      have e3 : S[j]? = some S[j + 0] := e1
      rw [hj] at e3
      exact .inl (Option.some.inj e3)
    · exact .inr (chain_path h (m - 1) j _ _ hj (by rw [show j + (m - 1) + 1 = j + m by omega]; exact e1))
  have p3 : Path f top y := .one hy
  rcases p1 with e | p1 <;> rcases p2 with e' | p2
  · rw [← e'] at e ⊢; rw [← e] at p3; exact p3
  · rw [e] at p2 ⊢; exact p3.trans p2
  · rw [← e']; rw [← e'] at p1; exact p1.trans p3
  · exact p1.trans (p3.trans p2)

structure Inv (f : Int → List Int) (N : List Int) (v : Int) (S D O : List Int) : Prop where
  chain : Chain f S
  head : S = [] ∨ S[0]? = some v
  nodup : S.Nodup
  inN : ∀ x, x ∈ S → x ∈ N
  apart : ∀ x, x ∈ S → x ∉ D
  vD : v ∉ D
  DN : ∀ x, x ∈ D → x ∈ N
  sound : ∀ x, x ∈ O → Path f x x
  done : ∀ x, x ∈ N → x ∉ D → x ∉ S → (∀ y, y ∈ f x → y ∉ D) ∧ (v ∈ f x → v ∈ O)
theorem Inv.start {f : Int → List Int} {N D O : List Int} {v : Int} (hv : v ∈ N) (hD : ∀ x, x ∈ D ↔ x ∈ N ∧ x ≠ v) (hO : ∀ x, x ∈ O → Path f x x) : Inv f N v [v] D O where
  chain := fun i x y _ hy => by simp at hy
  head := .inr rfl
  nodup := by simp
  inN := fun x hx => by rw [List.mem_singleton.mp hx]; exact hv
  apart := fun x hx h => by rw [List.mem_singleton.mp hx] at h; exact ((hD v).mp h).2 rfl
  vD := fun h => ((hD v).mp h).2 rfl
  DN := fun x hx => ((hD x).mp hx).1
  sound := hO
  done := fun x hx hxD hxS => absurd ((hD x).mpr ⟨hx, fun e => hxS (by rw [e]; exact .head _)⟩) hxD
theorem Inv.grow {f : Int → List Int} {N S D O O' : List Int} {v : Int} (I : Inv f N v S D O) (h : ∀ x, x ∈ O → x ∈ O') (hO : ∀ x, x ∈ O' → Path f x x) : Inv f N v S D O' :=
  { I with sound := hO, done := fun x a b c => let ⟨p, q⟩ := I.done x a b c; ⟨p, fun z => h _ (q z)⟩ }
theorem Inv.same {f : Int → List Int} {N S D D' O : List Int} {v : Int} (I : Inv f N v S D O) (h : ∀ x, x ∈ D' ↔ x ∈ D) : Inv f N v S D' O :=
  { I with apart := fun x hx z => I.apart x hx ((h x).mp z), vD := fun z => I.vD ((h v).mp z), DN := fun x hx => I.DN x ((h x).mp hx),
           done := fun x a b c => let ⟨p, q⟩ := I.done x a (fun z => b ((h x).mpr z)) c; ⟨fun y hy z => p y hy ((h y).mp z), q⟩ }
theorem Inv.push {f : Int → List Int} {N S D D' O : List Int} {v top y : Int} (I : Inv f N v S D O) (ht : S.getLast? = some top) (hy : y ∈ f top) (hyD : y ∈ D) (hD : ∀ x, x ∈ D' ↔ x ∈ D ∧ x ≠ y) : Inv f N v (S ++ [y]) D' O where
  chain := fun i a b ha hb => by
    rcases Nat.lt_trichotomy (i + 1) S.length with q | q | q
    · rw [List.getElem?_append_left (by omega)] at ha hb
      exact I.chain i a b ha hb
    · rw [List.getElem?_append_left (by omega)] at ha
      rw [List.getElem?_append_right (by omega), q, Nat.sub_self] at hb
      simp at hb
      rw [List.getLast?_eq_getElem?, ← q, Nat.add_sub_cancel, ha] at ht
      cases ht
      rw [← hb]; exact hy
    · have : (S ++ [y])[i + 1]? = none := List.getElem?_eq_none (by simp; omega)
      rw [this] at hb; cases hb
  head := by
    rcases I.head with e | e
    · rw [e] at ht; cases ht
    · exact .inr (by rw [List.getElem?_append_left (List.getElem?_eq_some_iff.mp e).1]; exact e)
  nodup := by
    rw [List.nodup_append]
    refine ⟨I.nodup, by simp, fun a ha b hb => ?_⟩
    rw [List.mem_singleton.mp hb]
    rintro rfl
    exact I.apart _ ha hyD
  inN := fun x hx => by
    rcases List.mem_append.mp hx with z | z
    · exact I.inN x z
    · rw [List.mem_singleton.mp z]; exact I.DN y hyD
  apart := fun x hx hz => by
    obtain ⟨z1, z2⟩ := (hD x).mp hz
    rcases List.mem_append.mp hx with z | z
    · exact I.apart x z z1
    · exact z2 (List.mem_singleton.mp z)
  vD := fun z => I.vD ((hD v).mp z).1
  DN := fun x hx => I.DN x ((hD x).mp hx).1
  sound := I.sound
  done := fun x hx hxD hxS => by
    have hxy : x ≠ y := fun e => hxS (List.mem_append_right _ (by rw [e]; exact .head _))
    obtain ⟨p, q⟩ := I.done x hx (fun z => hxD ((hD x).mpr ⟨z, hxy⟩)) fun z => hxS (List.mem_append_left _ z)
    exact ⟨fun u hu z => p u hu ((hD u).mp z).1, q⟩
theorem Inv.pop {f : Int → List Int} {N S D O : List Int} {v top : Int} (I : Inv f N v S D O) (ht : S.getLast? = some top) (h1 : ∀ y, y ∈ f top → y ∉ D) (h2 : v ∈ f top → v ∈ O) : Inv f N v S.dropLast D O where
  chain := fun i a b ha hb => by
    rw [List.dropLast_eq_take, List.getElem?_take] at ha hb
    split at ha <;> split at hb
    · exact I.chain i a b ha hb
    · cases hb
    · cases ha
    · cases ha
  head := by
    by_cases e : S.dropLast = []
    · exact .inl e
    · right
      rcases I.head with z | z
      · rw [z] at e; exact absurd rfl e
      · have hl : S.dropLast.length ≠ 0 := fun q => e (List.length_eq_zero_iff.mp q)
        rw [List.length_dropLast] at hl
        rw [List.dropLast_eq_take, List.getElem?_take, if_pos (by omega)]
        exact z
  nodup := I.nodup.sublist (List.dropLast_sublist _)
  inN := fun x hx => I.inN x (List.dropLast_subset _ hx)
  apart := fun x hx => I.apart x (List.dropLast_subset _ hx)
  vD := I.vD
  DN := I.DN
  sound := I.sound
  done := fun x hx hxD hxS => by
    by_cases e : x = top
    · subst e; exact ⟨h1, h2⟩
    · refine I.done x hx hxD fun z => hxS ?_
      obtain ⟨S', rfl⟩ : ∃ S', S = S' ++ [top] := List.getLast?_eq_some_iff.mp ht
      rw [List.dropLast_concat]
      rcases List.mem_append.mp z with q | q
      · exact q
      · exact absurd (List.mem_singleton.mp q) e
theorem Inv.memV {f : Int → List Int} {N S D O : List Int} {v : Int} (I : Inv f N v S D O) (h : S ≠ []) : S[0]? = some v := I.head.resolve_left h
/-- when the stack is empty, the start is found out -/
theorem Inv.finish {f : Int → List Int} {N D O : List Int} {v : Int} (I : Inv f N v [] D O) (hN : ∀ x, x ∈ N ↔ ∃ y, y ∈ f x) (p : Path f v v) : v ∈ O := by
  have key : ∀ a b, Path f a b → b = v → a ∉ D → v ∈ O := by
    intro a b q
    induction q with
    | one h =>
      rintro rfl hD
      exact (I.done _ ((hN _).mpr ⟨_, h⟩) hD List.not_mem_nil).2 h
    | cons h _ ih =>
      intro e hD
      exact ih e ((I.done _ ((hN _).mpr ⟨_, h⟩) hD List.not_mem_nil).1 _ h)
  exact key v v p rfl I.vD
theorem path_first {f : Int → List Int} {a b : Int} (p : Path f a b) : ∃ y, y ∈ f a := by
  cases p with
  | one h => exact ⟨_, h⟩
  | cons h _ => exact ⟨_, h⟩
end Mine
end

section
open PySem PySem.W PySem.Calls PyProof.Rows
set_option Elab.async false
set_option maxRecDepth 100000
namespace Mine

def fOf (ps : List (Int × Int)) (k : Int) : List Int := (ps.filter fun p => decide (p.1 = k)).map (·.2)
theorem mem_fOf {ps : List (Int × Int)} {k x : Int} : x ∈ fOf ps k ↔ (k, x) ∈ ps := by
  unfold fOf
  rw [List.mem_map]
  constructor
  · rintro ⟨p, hp, rfl⟩
    obtain ⟨h1, h2⟩ := List.mem_filter.mp hp
    simp at h2
    rw [← h2]; exact h1
  · intro h
    exact ⟨(k, x), List.mem_filter.mpr ⟨h, by simp⟩, rfl⟩

section
variable {prog : Program} {w : World} {A : Around} {E : Value → Shared → Prop} {s : Shared} {d : Addr} {env : Env}

theorem sub_dd_set : isSubtype (.type ddN) (.type "set") = pure false := by rw [isSubtype_type]; kernel_rfl
theorem sub_dd_frozen : isSubtype (.type ddN) (.type "frozenset") = pure false := by rw [isSubtype_type]; kernel_rfl
/-- set(d), a table's keys -/
theorem call_set_dt {sl : Array (Option Value)} {ep : Nat} {m : List (Int × Addr)} {Q : Value → Shared → Prop} (hh : A.handled = none) (hd : DT s.heap d ddN sl ep m) (h6 : ∀ p, p ∈ m → p.1 ∈ six)
    (h : ∀ h' tk l', Upto [] s.heap h' → ISet w true h' s.heap.objs.size l' → (∀ x, x ∈ l' ↔ x ∈ m.map (·.1)) → Q (.ref s.heap.objs.size) { s with heap := h', toks := tk }) :
    wpAny (model prog w) A (call (.type "set") [.ref d]) Q E s := by
  refine call_set_1 ?_
  generalize hS0 : s.heap.objs.size = S at h ⊢
  have fS : s.heap.get? S = none := by rw [← hS0]; exact get_none_size
  have gS : (s.heap.push (emptySet w)).get? S = some (emptySet w) := by rw [← hS0]; exact Heap.get?_push_size _ rfl
  have u1 : Upto [] s.heap (s.heap.push (emptySet w)) := Upto.push _
  generalize s.heap.push (emptySet w) = h1 at gS u1 ⊢
  have hd1 := hd.at u1 (by simp)
  obtain ⟨od, hod, hcd⟩ := hd1.get
  have neS : d ≠ S := by obtain ⟨o, ho, _⟩ := hd.get; exact ne_of_none ho fS
  have fI : h1.get? h1.objs.size = none := get_none_size
  have neI : d ≠ h1.objs.size := ne_of_none hod fI
  have neSI : S ≠ h1.objs.size := ne_of_none gS fI
  have uP : Upto [] h1 (h1.push (keyIterO d 0 m.length ep)) := Upto.push _
  refine updateFrom_walk (l := []) ⟨ddN, hd1.type (s := { s with heap := h1 }), sub_dd_set, sub_dd_frozen, by decide⟩ (pyIter_DT hd1 ⟨(iset_empty gS).at uP (by simp), m.map (·.1), ?_, ?_⟩)
  · intro v hv
    obtain ⟨p, hp, rfl⟩ := List.mem_map.mp hv
    exact h6 p hp
  · refine ⟨h1.objs.size, _, _, _, _, _, fun i => (m.map (·.1)).getD i 0, rfl, dtWalks (c := ddN) (sl := sl) (ep := ep) (m := m) (A := A.in1.in1.in1) hh neI, by simp [neSI, neS.symm], fun i v hi hv => ?_, ⟨Heap.get?_push_size _ rfl, hd1.at uP (by simp)⟩, ?_, ?_⟩
    · obtain ⟨p, t, hp, rfl⟩ := hv
      refine ⟨t, ?_⟩
      have : (m.map (·.1)).getD i 0 = p.1 := by rw [List.getD_eq_getElem?_getD, List.getElem?_map, hp]; rfl
      show Value.int p.1 t = Value.int ((m.map (·.1)).getD i 0) t
      rw [this]
    · apply List.ext_getElem
      · simp
      · intro i h1 h2
        rw [List.length_map] at h1
        simp [h1]
    · intro h' tk l' u S' m'
      refine h h' tk l' (fun b o _ e => ?_) S' fun x => by rw [m']; simp
      have e1 := u1 b o (by simp) e
      exact u b o (by simp [ne_of_none e fS, ne_of_none e1 fI]) (uP b o (by simp) e1)

/-- [x] -/
theorem list1 {e : Expr} {pos : Pos} {Q : Value → Shared → Prop} (h : wpAny (model prog w) A (eval e env) (fun v s1 => Q (.ref s1.heap.objs.size) { s1 with heap := s1.heap.push (seqObj "list" #[v] 0) }) E s)
    (hs : starEach [e] env = [(false, eval e env)] := by rfl) : wpAny (model prog w) A (eval (.List [e] pos) env) Q E s := by
  refine wpAny_List_spliced ?_
  rw [starEach1 hs]
  exact spliced_cons (wpAny_mono h (fun v s1 h1 => spliced_nil ⟨by rw [sizeLine_eq]; exact Nat.le_of_ble_eq_true rfl, h1⟩) fun _ _ e => e)

theorem il_append {o e : Expr} {apos pos : Pos} {Q : Value → Shared → Prop}
    (h : wpAny (model prog w) A (eval o env) (fun ov s1 => ∃ a ns, ov = .ref a ∧ IL s1.heap a ns ∧ ns.length ≤ 1000 ∧
      wpAny (model prog w) A (eval e env) (fun v s2 => (∃ n t, v = .int n t ∧ ∀ h', IL h' a (ns ++ [n]) → Heap.SameBut a s2.heap h' → Q .none { s2 with heap := h' }) ∧ Upto [] s1.heap s2.heap) E s1) E s)
    (hbase : attributeBase o (Str.ofString "append") env (eval o env) = eval o env := by rfl) (hline : (apos.endLine == pos.line) = true := by rfl) (hs : starEach [e] env = [(false, eval e env)] := by rfl) :
    wpAny (model prog w) A (eval (.Call (.Attribute o (Str.ofString "append") apos) [e] [] pos) env) Q E s := by
  refine append_pl (wpAny_mono h (fun ov s1 h1 => ?_) fun _ _ e => e) hbase hline hs
  obtain ⟨a, ns, rfl, ⟨vs, p, i⟩, hsz, hv⟩ := h1
  refine ⟨a, vs, rfl, p, by rw [i.length]; exact hsz, wpAny_mono hv (fun v s2 h2 => ?_) fun _ _ e => e⟩
  obtain ⟨⟨n, t, rfl, hQ⟩, u⟩ := h2
  exact ⟨p.at u (by simp), fun h' p' sb => hQ h' ⟨_, p', ints_append i (.cons n t .nil)⟩ sb⟩

/-- l[j:] -/
theorem il_from {o e : Expr} {sp pos : Pos} {Q : Value → Shared → Prop}
    (h : wpAny (model prog w) A (eval o env) (fun ov s1 => wpAny (model prog w) A (eval e env) (fun v s2 => ∃ a ns j t, ov = .ref a ∧ v = .int (j : Nat) t ∧ j ≤ ns.length ∧ IL s2.heap a ns ∧ ns.length ≤ 1000 ∧
      ∀ h' r, Upto [] s2.heap h' → s2.heap.get? r = none → IL h' r (ns.drop j) → Q (.ref r) { s2 with heap := h' }) E s1) E s)
    (ht : ∀ x r, letTemporaryGo o x r = pure () := by intro _ _; rfl) : wpAny (model prog w) A (eval (.Subscript o (.Slice (some e) none none sp) pos) env) Q E s := by
  refine wpAny_Subscript_list_slice (wpAny_mono h (fun ov s1 h1 => ?_) fun _ _ e => e) ht
  show wpAny _ _ (eval e env) _ _ _
  refine wpAny_mono h1 (fun v s2 h2 => wpAny_pure ?_) fun _ _ e => e
  obtain ⟨a, ns, j, t, rfl, rfl, hj, ⟨vs, p, i⟩, hsz, hQ⟩ := h2
  have hl := i.length
  refine ⟨a, vs.toArray, some (j : Int), none, rfl, p.list, by rw [List.size_toArray, sizeLine_eq]; omega, .int _ _, .none, ?_⟩
  have hp : slicePick vs.toArray (some (j : Int)) none none = (vs.drop j).toArray := by rw [slicePick_from _ _ (by rw [List.size_toArray]; omega)]
  rw [hp]
  have hsz1 : ∀ ob : Obj, (s2.heap.push ob).objs.size = s2.heap.objs.size + 1 := fun ob => Heap.size_push ..
  refine hQ _ _ ((Upto.push _).trans (Upto.push _)) ?_ ⟨vs.drop j, ⟨0, ?_⟩, ints_drop i j⟩
  · cases e : s2.heap.get? (s2.heap.objs.size + 1) with
    | none => rfl
    | some ob => exact absurd (Heap.lt_size e) (Nat.not_lt.mpr (Nat.le_succ _))
  · rw [← hsz1]; exact Heap.get?_push_size _ rfl
theorem dd_empty {h : Heap} (hd : DT h d ddN ddS 0 []) : Tb w h d ddN ddS [] (fun _ => []) :=
  ⟨⟨0, hd⟩, fun _ h => absurd h List.not_mem_nil, .nil, fun _ _ => rfl, fun _ h => absurd h List.not_mem_nil⟩
end
end Mine
end

section
open PySem PySem.W PySem.Calls PyProof.Rows
set_option Elab.async false
set_option maxRecDepth 100000
namespace Mine

section
variable {prog : Program} {w : World} {A : Around} {E : Value → Shared → Prop} {R : Result → Shared → Prop} {s : Shared}

set_option maxHeartbeats 4000000 in
theorem find_cycles {X : Addr} {yv : Value} {ps : List (Int × Int)} (B : Base (KK w) s.heap) (hh : A.handled = none) (hroom : A.depth < recursionLimit) (S : Src w s.heap X ps) (hs : ∀ p, p ∈ ps → Small p)
    (h : ∀ h' tk o O, Upto [] s.heap h' → s.heap.get? o = none → ISet w true h' o O → (∀ x, x ∈ O ↔ Path (fOf ps) x x) → R (.ok (.ret (.ref o))) { s with heap := h', toks := tk }) :
    codeAny (model prog w) A (.call (.ref 72) ⟨[.ref X, yv], []⟩) R s := by
  refine call_fn B (a := 72) (o := _) rfl rfl (by kernel_rfl) hroom rfl (binds := [(Str.ofString "tuples", .ref X), (Str.ofString "allitems", yv)]) (by rfl) rfl (fun n => by rfl) ?_
  intro h1 tk U1 hns c1 c2
  clear c1 c2
  have l1 : Loc h1 s.heap.objs.size [(Str.ofString "tuples", .ref X)] := Loc.of hns (List.forall_mem_cons.mpr ⟨rfl, fun _ h => nomatch h⟩)
  clear hns
  generalize hA : A.deeper _ = A'
  have hh' : A'.handled = none := by rw [← hA]; exact hh
  clear hA
  generalize hL : s.heap.objs.size = L at l1 ⊢
  have fL : s.heap.get? L = none := by rw [← hL]; exact get_none_size
  have base : ∀ h, Upto [L] h1 h → Base (KK w) h := fun h u => B.keeps fun b o e => u b o (by simpa using ne_of_none e fL) (U1 b o (by simp) e)
  have B1 := base h1 (Upto.refl _ _)
  have S1 : Src w h1 X ps := S.keep U1
  have hXL : X ≠ L := by obtain ⟨o, ho, _⟩ := S.get; exact ne_of_none ho fL
  -- edges = defaultdict(set)
  have fd : h1.get? h1.objs.size = none := get_none_size
  refine wpAny_execs_cons (wpAny_Assign_Name (callT1 (T := ddN) (ldG B1 g_dd ⟨rfl, ldSet B1 (call_dd (big B1) fun h2 tk2 u12 D2 _ => ?_)⟩)))
  dsimp only at u12 D2 ⊢
  generalize h1.objs.size = d at fd D2 ⊢
  have hdL : d ≠ L := by obtain ⟨o, _, _, ho, _⟩ := l1.get; exact (ne_of_none ho fd).symm
  refine stL (l1.at u12 (by simp)) fun h3 l3 sb3 => ?_
  dsimp only
  replace l3 : Loc h3 L _ := l3
  have u23 : Upto [L] h2 h3 := Upto.same sb3 (.head _)
  have u13 : Upto [L] h1 h3 := (u12.mono (by simp)).trans u23
  have T3 : Tb w h3 d ddN ddS [] (fun _ => []) := dd_empty (D2.at u23 (by simpa using hdL))
  have S3 : Src w h3 X ps := S1.at u13 (by simpa using hXL) fun r p t => by simpa using l1.ne_tup t
  -- for parent, child in tuples
  refine wpAny_execs_cons (dd_for (b := true) (bk := [(Str.ofString "edges", .ref d), (Str.ofString "tuples", .ref X)]) hh' (l3.pick ⟨rfl, rfl, trivial⟩) S3 hs T3 hdL hXL (fun _ _ => ⟨rfl, rfl, trivial⟩) rfl (fun _ _ => rfl) (fun _ _ => rfl) (fun _ _ => rfl) fun h4 tk4 m f u34 l4 T4 hf hkeys hfr => ?_)
  dsimp only at u34 l4 ⊢
  replace u34 : Upto [L, d] h3 h4 := u34
  replace l4 : Loc h4 L _ := l4
  have u14 : Upto [L] h1 h4 := u13.write u34 fun b hb => by
    rcases List.mem_cons.mp hb with rfl | hb
    · exact .inr (.head _)
    · rw [List.mem_singleton.mp hb]; exact .inl fd
  have hf' : ∀ k x, x ∈ f k ↔ x ∈ fOf ps k := fun k x => by
    rw [hf, mem_fOf]
    exact ⟨fun ⟨p, hp, e⟩ => by rw [← e]; exact hp, fun hp => ⟨_, hp, rfl⟩⟩
  have h6 : ∀ p, p ∈ m → p.1 ∈ six := fun p hp => by
    obtain ⟨x, hx⟩ := (hkeys p.1).mp (List.mem_map.mpr ⟨p, hp, rfl⟩)
    exact (hs _ (mem_fOf.mp ((hf' _ _).mp hx))).1
  -- nodes_to_test = set(edges)
  obtain ⟨ep4, D4⟩ := T4.dt
  have B4 := base _ u14
  have fnt : h4.get? h4.objs.size = none := get_none_size
  refine wpAny_execs_cons (wpAny_Assign_Name (callT1 (T := "set") (ldSet B4 ⟨rfl, ldL l4 rfl (call_set_dt hh' D4 h6 fun h5 tk5 N u45 SN hN => ?_)⟩)))
  dsimp only at u45 SN ⊢
  generalize h4.objs.size = nt at fnt SN ⊢
  have l5 := l4.at u45 (by simp)
  have neNL : nt ≠ L := l5.ne_set SN
  refine stL l5 fun h6 l6 sb6 => ?_
  dsimp only
  replace l6 : Loc h6 L _ := l6
  have u56 : Upto [L] h5 h6 := Upto.same sb6 (.head _)
  have u46 : Upto [L] h4 h6 := (u45.mono (by simp)).trans u56
  have SN6 : ISet w true h6 nt N := SN.at u56 (by simpa using neNL)
  have T6 : Tb w h6 d ddN ddS m f := T4.at u46 (by simpa using hdL) fun p hp => by simpa using T4.ne_loc l4 hp
  have u16 : Upto [L] h1 h6 := u14.trans u46
  have hNf : ∀ x, x ∈ N ↔ ∃ y, y ∈ f x := fun x => by rw [hN, hkeys]
  clear hN l5 SN T3 S3 l3 D2 sb3 u23 u12
  -- output = set()
  have B6 := base _ u16
  have fo : h6.get? h6.objs.size = none := get_none_size
  have go : (h6.push (emptySet w)).get? h6.objs.size = some (emptySet w) := Heap.get?_push_size _ rfl
  have uo : Upto [] h6 (h6.push (emptySet w)) := Upto.push _
  refine wpAny_execs_cons (wpAny_Assign_Name (callT0 (T := "set") (ldSet B6 ⟨rfl, call_set_led ?_⟩)))
  dsimp only
  generalize h6.objs.size = o at fo go ⊢
  generalize h6.push (emptySet w) = h7 at go uo ⊢
  have l7 := l6.at uo (by simp)
  have So7 : ISet w true h7 o [] := iset_empty go
  have neoL : o ≠ L := l7.ne_set So7
  refine stL l7 fun h8 l8 sb8 => ?_
  dsimp only
  replace l8 : Loc h8 L _ := l8
  have u78 : Upto [L] h7 h8 := Upto.same sb8 (.head _)
  have u68 : Upto [L] h6 h8 := (uo.mono (by simp)).trans u78
  have So8 : ISet w true h8 o [] := So7.at u78 (by simpa using neoL)
  have SN8 : ISet w true h8 nt N := SN6.at u68 (by simpa using neNL)
  -- for node in nodes_to_test
  refine wpAny_execs_cons (wpAny_For (ldL l8 rfl (iset_iter (A' := A') hh' SN8 fun I0 h9 vs St0 u89 fI0 hI0 pvs W0 st0 hcl0 => ?_)))
  dsimp only at u89 fI0 ⊢
  have neLI : L ≠ I0 := by obtain ⟨_, _, _, ho, _⟩ := l8.get; exact ne_of_none ho fI0
  have neoI : o ≠ I0 := by obtain ⟨_, ho, _⟩ := So8.get; exact ne_of_none ho fI0
  have nenI : nt ≠ I0 := by obtain ⟨_, ho, _⟩ := SN8.get; exact ne_of_none ho fI0
  have neno : nt ≠ o := by obtain ⟨_, ho, _⟩ := SN6.get; exact ne_of_none ho fo
  have f6I : h6.get? I0 = none := by
    cases e : h6.get? I0 with
    | none => rfl
    | some ob => exact absurd (u68 I0 ob (by simpa using neLI.symm) e) (by rw [fI0]; simp)
  let J0 : Nat → Heap → Prop := fun i h => Upto [L] h6 h ∧ Loc h L [(Str.ofString "edges", .ref d), (Str.ofString "nodes_to_test", .ref nt), (Str.ofString "output", .ref o)] ∧
    ∃ O, ISet w true h o O ∧ (∀ x, x ∈ O → Path f x x) ∧ ∀ x, x ∈ vs.take i → Path f x x → x ∈ O
  refine for_walk W0 (J := J0) st0 ⟨u68.trans (u89.mono (by simp)), (l8.at u89 (by simp)).pick ⟨rfl, rfl, rfl, trivial⟩, [], So8.at u89 (by simp), fun x hx => absurd hx List.not_mem_nil, fun x hx => by simp at hx⟩ ?_ ?_ ?_
  · rintro i h h' ⟨u, lo, O, SO, so, co⟩ v
    exact ⟨u.write v fun b hb => .inl (by rw [List.mem_singleton.mp hb]; exact f6I), lo.at v (by simpa using neLI), O, SO.at v (by simpa using neoI), so, co⟩
  · rintro i v h10 tk10 hi ⟨k, t, hk, rfl⟩ hst ⟨u10, l10, O, SO, so, co⟩
    have hkN : k ∈ N := pvs.mem_iff.mp (List.mem_of_getElem? hk)
    refine letOwn_name (wpAny_assign_Name (stL l10 fun h11 l11 sb11 => ?_))
    replace l11 : Loc h11 L _ := l11
    have u11 : Upto [L] h10 h11 := Upto.same sb11 (.head _)
    have u6_11 : Upto [L] h6 h11 := u10.trans u11
    have So11 : ISet w true h11 o O := SO.at u11 (by simpa using neoL)
    obtain ⟨oI, hoI, hcI⟩ := hcl0 _ _ hst
    -- stack = [node]
    refine wpAny_execs_cons (wpAny_Assign_Name (list1 (ldL l11 rfl ?_)))
    dsimp only
    have fst : h11.get? h11.objs.size = none := get_none_size
    have gst : IL (h11.push (seqObj "list" #[Value.int k t] 0)) h11.objs.size [k] := ⟨[.int k t], ⟨0, Heap.get?_push_size _ rfl⟩, .cons k t .nil⟩
    have ust : Upto [] h11 (h11.push (seqObj "list" #[Value.int k t] 0)) := Upto.push _
    generalize h11.objs.size = st at fst gst ⊢
    generalize h11.push (seqObj "list" #[Value.int k t] 0) = h12 at gst ust ⊢
    have l12 := l11.at ust (by simp)
    have nesL : st ≠ L := l12.ne_il gst
    refine stL l12 fun h13 l13 sb13 => ?_
    dsimp only
    replace l13 : Loc h13 L _ := l13
    have u12_13 : Upto [L] h12 h13 := Upto.same sb13 (.head _)
    have u11_13 : Upto [L] h11 h13 := (ust.mono (by simp)).trans u12_13
    have st13 : IL h13 st [k] := gst.at u12_13 (by simpa using nesL)
    have SN13 : ISet w true h13 nt N := (SN6.at u6_11 (by simpa using neNL)).at u11_13 (by simpa using neNL)
    -- todo = nodes_to_test.difference(stack)
    obtain ⟨vs13, pl13, iv13⟩ := id st13
    have ftd : h13.get? h13.objs.size = none := get_none_size
    refine wpAny_execs_cons (wpAny_Assign_Name (meth1 (ldL l13 rfl ⟨"set", "set.difference", PySem.F.plainAttrs_set, PySem.F.slot_set_difference, PySem.F.type_set_difference, ISet.type (s := { s with heap := h13 }) SN13, ISet.noDict (s := { s with heap := h13 }) SN13,
      ldL l13 rfl (call_diff hh' SN13 pl13.list iv13 fun h14 tk14 D u13_14 SD mD => ?_)⟩)))
    dsimp only at u13_14 SD ⊢
    generalize h13.objs.size = td at ftd SD ⊢
    have l14 := l13.at u13_14 (by simp)
    have netL : td ≠ L := l14.ne_set SD
    refine stL l14 fun h15 l15 sb15 => ?_
    dsimp only
    replace l15 : Loc h15 L _ := l15
    have u14_15 : Upto [L] h14 h15 := Upto.same sb15 (.head _)
    have u13_15 : Upto [L] h13 h15 := (u13_14.mono (by simp)).trans u14_15
    have u11_15 : Upto [L] h11 h15 := u11_13.trans u13_15
    have SD15 : ISet w false h15 td D := SD.at u14_15 (by simpa using netL)
    have st15 : IL h15 st [k] := st13.at u13_15 (by simpa using nesL)
    have So15 : ISet w true h15 o O := So11.at u11_15 (by simpa using neoL)
    have nest : st ≠ td := by obtain ⟨_, ho, _⟩ := st13.get; exact ne_of_none ho ftd
    have neso : st ≠ o := by obtain ⟨_, ho, _⟩ := So11.get; exact (ne_of_none ho fst).symm
    have neto : td ≠ o := by obtain ⟨_, ho, _⟩ := (So11.at u11_13 (by simpa using neoL)).get; exact (ne_of_none ho ftd).symm
    have hI11 : h11.get? I0 = some oI := u11.at hoI (by simpa using neLI.symm)
    have nesI : st ≠ I0 := (ne_of_none hI11 fst).symm
    have netI : td ≠ I0 := (ne_of_none (u11_13.at hI11 (by simpa using neLI.symm)) ftd).symm
    have f6st : h6.get? st = none := by
      cases e : h6.get? st with
      | none => rfl
      | some ob => exact absurd (u6_11 st ob (by simpa using nesL) e) (by rw [fst]; simp)
    have f6td : h6.get? td = none := by
      cases e : h6.get? td with
      | none => rfl
      | some ob => exact absurd ((u6_11.trans u11_13) td ob (by simpa using netL) e) (by rw [ftd]; simp)
    have inv0 : Inv f N k [k] D O := Inv.start hkN (fun x => by rw [mD]; simp) so
    -- while stack
    let K : Nat → Shared → Prop := fun n s' => ∃ (hx : Heap) (tk : Nat) (Sx Dx Ox : List Int), s' = { s with heap := hx, toks := tk } ∧ Upto [L, o, st, td] h15 hx ∧
      Loc hx L [(Str.ofString "edges", .ref d), (Str.ofString "nodes_to_test", .ref nt), (Str.ofString "output", .ref o), (Str.ofString "stack", .ref st), (Str.ofString "todo", .ref td)] ∧
      IL hx st Sx ∧ ISet w false hx td Dx ∧ ISet w true hx o Ox ∧ Inv f N k Sx Dx Ox ∧ (∀ x, x ∈ O → x ∈ Ox) ∧ n = 2 * Dx.length + Sx.length
    have hb6 : ∀ hx, Upto [L, o, st, td] h15 hx → Upto [L] h6 hx := fun hx u => (u6_11.trans u11_15).write u fun b hb => by
      simp only [List.mem_cons, List.not_mem_nil, or_false] at hb
      rcases hb with rfl | rfl | rfl | rfl
      · exact .inr (.head _)
      · exact .inl fo
      · exact .inl f6st
      · exact .inl f6td
    refine wpAny_execs_cons (wpAny_While (codeAny_whileLoop K ?_ _ ⟨h15, _, [k], D, O, rfl, Upto.refl _ _, l15.pick ⟨rfl, rfl, rfl, rfl, rfl, trivial⟩, st15, SD15, So15, inv0, fun _ h => h, rfl⟩))
    rintro n s' ⟨hx, tkx, Sx, Dx, Ox, rfl, ux, lx, stx, SDx, Sox, inv, hOx, rfl⟩
    have hS6 : Sx.length ≤ 6 := nodup_six inv.nodup fun x hx => SN6.six x (inv.inN x hx)
    refine wpAny_isTrue_value (ldL lx rfl (il_truthy stx (by omega) ?_))
    cases hSe : Sx with
    | nil =>
      subst hSe
      simp only [List.isEmpty_nil, Bool.not_true, Bool.false_eq_true, ↓reduceIte]
      refine wpAny_execs_nil ?_
      dsimp only
      refine wpAny_execs_nil ⟨hx, _, rfl, ⟨hb6 hx ux, lx.pick ⟨rfl, rfl, rfl, trivial⟩, Ox, Sox, inv.sound, fun x hxm hp => ?_⟩, fun b hb ob e => ?_⟩
      · rcases (mem_take_succ hk).mp hxm with z | rfl
        · exact hOx x (co x z hp)
        · exact inv.finish hNf hp
      · have hbn : b ≠ L ∧ b ≠ o ∧ b ≠ st ∧ b ≠ td := by
          rcases List.mem_cons.mp hb with rfl | hb
          · exact ⟨neLI.symm, neoI.symm, nesI.symm, netI.symm⟩
          · rw [List.mem_singleton.mp hb]
            obtain ⟨_, hn11, _⟩ := (SN6.at u6_11 (by simpa using neNL)).get
            exact ⟨neNL, neno, ne_of_none hn11 fst, ne_of_none (u11_13.at hn11 (by simpa using neNL)) ftd⟩
        refine ux b ob (by simp [hbn.1, hbn.2.1, hbn.2.2.1, hbn.2.2.2]) (u11_15 b ob (by simpa using hbn.1) (u11 b ob (by simpa using hbn.1) e))
    | cons s0 S' =>
      rw [← hSe]
      have hSne : Sx ≠ [] := by rw [hSe]; simp
      have hemp : (!Sx.isEmpty) = true := by rw [hSe]; rfl
      rw [hemp]
      simp only [↓reduceIte]
      obtain ⟨top, htop⟩ : ∃ top, Sx.getLast? = some top := by
        cases e : Sx.getLast? with
        | none => exact absurd (List.getLast?_eq_none_iff.mp e) hSne
        | some top => exact ⟨top, rfl⟩
      have htS : top ∈ Sx := List.mem_of_getLast? htop
      have hS0 : Sx[0]? = some k := inv.memV hSne
      -- top = stack[-1]
      refine wpAny_execs_cons (wpAny_Assign_Name (il_last htop (by omega) (ldL lx rfl ⟨rfl, stx, fun tt tkt => ?_⟩)))
      refine stL lx fun h17 l17 sb17 => ?_
      dsimp only
      replace l17 : Loc h17 L _ := l17
      have ux17 : Upto [L] hx h17 := Upto.same sb17 (.head _)
      have u15_17 : Upto [L, o, st, td] h15 h17 := ux.trans (ux17.mono (by simp))
      have st17 := stx.at ux17 (by simpa using nesL)
      have SD17 := SDx.at ux17 (by simpa using netL)
      have So17 := Sox.at ux17 (by simpa using neoL)
      have T17 : Tb w h17 d ddN ddS m f := T6.at (hb6 h17 u15_17) (by simpa using hdL) fun p hp => by simpa using T6.ne_loc l6 hp
      have htk : top ∈ m.map (·.1) := (hkeys top).mpr ((hNf top).mp (inv.inN top htS))
      obtain ⟨pt, hpt, hpe⟩ := List.mem_map.mp htk
      obtain ⟨ep17, D17⟩ := T17.dt
      have hSt17 : ISet w true h17 pt.2 (f top) := by rw [← hpe]; exact T17.set pt hpt
      -- for node in edges[top]
      refine wpAny_execs_cons (wpAny_For (wpAny_Subscript_Name (T := ddN) (id := "dict.__getitem__") DD.slot_getitem.lookup (ldL l17 rfl (ldL l17 rfl ⟨D17.type, getItem_hit D17 (by rw [← hpe]; exact look_of D17.nodup hpt) ?_⟩))))
      refine iset_iter (A' := A') hh' hSt17 fun I1 h18 us St1 u17_18 fI1 hI1 pus W1 st1 hcl1 => ?_
      dsimp only at u17_18 fI1 ⊢
      have neLI1 : L ≠ I1 := by obtain ⟨_, _, _, ho, _⟩ := l17.get; exact ne_of_none ho fI1
      have neoI1 : o ≠ I1 := by obtain ⟨_, ho, _⟩ := So17.get; exact ne_of_none ho fI1
      have nesI1 : st ≠ I1 := by obtain ⟨_, ho, _⟩ := st17.get; exact ne_of_none ho fI1
      have netI1 : td ≠ I1 := by obtain ⟨_, ho, _⟩ := SD17.get; exact ne_of_none ho fI1
      have neap : pt.2 ≠ L ∧ pt.2 ≠ o ∧ pt.2 ≠ td := by
        obtain ⟨_, ho, _⟩ := (T6.set pt hpt).get
        exact ⟨T6.ne_loc l6 hpt, ne_of_none ho fo, ne_of_none ho f6td⟩
      have husf : ∀ y, y ∈ us ↔ y ∈ f top := fun y => pus.mem_iff
      let J1 : Nat → Heap → Prop := fun i h => Upto [L, o, td] h17 h ∧
        Loc h L [(Str.ofString "edges", .ref d), (Str.ofString "nodes_to_test", .ref nt), (Str.ofString "output", .ref o), (Str.ofString "stack", .ref st), (Str.ofString "todo", .ref td)] ∧
        ∃ D2 O2, IL h st Sx ∧ ISet w false h td D2 ∧ (∀ x, x ∈ D2 ↔ x ∈ Dx) ∧ ISet w true h o O2 ∧ (∀ x, x ∈ Ox → x ∈ O2) ∧ (∀ x, x ∈ O2 → Path f x x) ∧ (∀ y, y ∈ us.take i → y ∉ Dx) ∧ (k ∈ us.take i → k ∈ O2)
      refine for_walk W1 (J := J1) st1 ⟨u17_18.mono (by simp), (l17.at u17_18 (by simp)).pick ⟨rfl, rfl, rfl, rfl, rfl, trivial⟩, Dx, Ox, st17.at u17_18 (by simp), SD17.at u17_18 (by simp), fun _ => Iff.rfl, So17.at u17_18 (by simp), fun _ h => h, inv.sound, fun y hy => by simp at hy, fun hy => by simp at hy⟩ ?_ ?_ ?_
      · rintro i h h' ⟨u, lo, D2, O2, a1, a2, a3, a4, a5, a6, a7, a8⟩ v
        exact ⟨u.write v fun b hb => .inl (by rw [List.mem_singleton.mp hb]; exact fI1), lo.at v (by simpa using neLI1), D2, O2, a1.at v (by simpa using nesI1), a2.at v (by simpa using netI1), a3, a4.at v (by simpa using neoI1), a5, a6, a7, a8⟩
      · rintro j v h19 tk19 hj ⟨y, ty, hy, rfl⟩ hst1 ⟨u19, l19, D2, O2, st19, SD19, hD2, So19, hO2, so2, hno, hkO⟩
        have hyf : y ∈ f top := (husf y).mp (List.mem_of_getElem? hy)
        refine letOwn_name (wpAny_assign_Name (stL l19 fun h20 l20 sb20 => ?_))
        replace l20 : Loc h20 L _ := l20
        have u20 : Upto [L] h19 h20 := Upto.same sb20 (.head _)
        have st20 := st19.at u20 (by simpa using nesL)
        have SD20 := SD19.at u20 (by simpa using netL)
        have So20 := So19.at u20 (by simpa using neoL)
        have hcycN : ∀ i x, x ∈ Sx.drop i → x ∈ six := fun i x hx => SN6.six x (inv.inN x (List.mem_of_mem_drop hx))
        -- if node in stack
        refine wpAny_execs_cons (wpAny_mono (Q := fun fl s' => fl = .next ∧ ∃ h21 tk21 D3 O3, s' = { s with heap := h21, toks := tk21 } ∧ Upto [L, o, td] h20 h21 ∧
          Loc h21 L [(Str.ofString "node", .int y ty), (Str.ofString "edges", .ref d), (Str.ofString "nodes_to_test", .ref nt), (Str.ofString "output", .ref o), (Str.ofString "stack", .ref st), (Str.ofString "todo", .ref td)] ∧
          IL h21 st Sx ∧ ISet w false h21 td D3 ∧ (∀ x, x ∈ D3 ↔ x ∈ Dx) ∧ ISet w true h21 o O3 ∧ (∀ x, x ∈ O2 → x ∈ O3) ∧ (∀ x, x ∈ O3 → Path f x x) ∧ (y ∈ Sx → y ∈ O3)) ?_ (fun fl s' hm => ?_) (fun _ _ e => e))
        · refine wpAny_If (wpAny_isTrue_Compare1 (ldL l20 rfl (ldL l20 rfl (il_in st20 (wpAny_truthy_bool ?_)))))
          by_cases hyS : y ∈ Sx
          · rw [decide_eq_true hyS]
            simp only [↓reduceIte]
            -- cyc = stack[stack.index(node):]
            obtain ⟨vst, pst, ist⟩ := id st20
            refine wpAny_execs_cons (wpAny_Assign_Name (il_from (ldL l20 rfl (meth1 (ldL l20 rfl ⟨"list", "list.index", PySem.F.plainAttrs_list, PySem.F.slot_list_index, PySem.F.type_list_index, pst.list.typeIs, (let ⟨_, ho⟩ := pst; IsList.noDict' ho), ldL l20 rfl (il_index st20 hyS (by omega) fun jx tj tkj hjx => ?_)⟩)))))
            have hjl : jx ≤ Sx.length := by obtain ⟨q, _⟩ := List.getElem?_eq_some_iff.mp hjx; omega
            refine ⟨st, Sx, jx, tj, rfl, rfl, hjl, st20, by omega, fun h22 cy u22 fcy cyL => ?_⟩
            have l22 := l20.at u22 (by simp)
            have necL : cy ≠ L := l22.ne_il cyL
            refine stL l22 fun h23 l23 sb23 => ?_
            dsimp only
            replace l23 : Loc h23 L _ := l23
            have u23 : Upto [L] h22 h23 := Upto.same sb23 (.head _)
            have u20_23 : Upto [L] h20 h23 := (u22.mono (by simp)).trans u23
            have cy23 := cyL.at u23 (by simpa using necL)
            have SD23 := SD20.at u20_23 (by simpa using netL)
            have So23 := So20.at u20_23 (by simpa using neoL)
            have st23 := st20.at u20_23 (by simpa using nesL)
            have nect : cy ≠ td := by obtain ⟨_, ho, _⟩ := SD20.get; exact (ne_of_none ho fcy).symm
            have neco : cy ≠ o := by obtain ⟨_, ho, _⟩ := So20.get; exact (ne_of_none ho fcy).symm
            obtain ⟨vcy, pcy, icy⟩ := id cy23
            -- todo.difference_update(cyc)
            refine wpAny_execs_cons (wpAny_Expr (meth1 (ldL l23 rfl ⟨"set", "set.difference_update", PySem.F.plainAttrs_set, PySem.F.slot_set_difference_update, PySem.F.type_set_difference_update, ISet.type (s := { s with heap := h23 }) SD23, ISet.noDict (s := { s with heap := h23 }) SD23,
              ldL l23 rfl (call_diffUpd hh' SD23 pcy.list icy fun h24 tk24 D3 u24 SD24 mD3 => ?_)⟩)))
            dsimp only at u24 ⊢
            have l24 := l23.at u24 (by simpa using netL.symm)
            have pcy24 := pcy.at u24 (by simpa using nect)
            have So24 := So23.at u24 (by simpa using neto.symm)
            -- output.update(cyc)
            refine wpAny_execs_cons (wpAny_Expr (meth1 (ldL l24 rfl ⟨"set", "set.update", PySem.F.plainAttrs_set, PySem.F.slot_set_update, PySem.F.type_set_update, ISet.type (s := { s with heap := h24 }) So24, ISet.noDict (s := { s with heap := h24 }) So24,
              ldL l24 rfl (call_update hh' So24 pcy24.list icy (hcycN jx) fun h25 tk25 O3 u25 So25 mO3 => ?_)⟩)))
            dsimp only at u25 ⊢
            refine wpAny_execs_nil ⟨rfl, h25, tk25, D3, O3, rfl, (u20_23.mono (by simp)).trans ((u24.mono (by simp)).trans (u25.mono (by simp))), (l24.at u25 (by simpa using neoL.symm)).pick ⟨rfl, rfl, rfl, rfl, rfl, rfl, trivial⟩,
              (st23.at u24 (by simpa using nest)).at u25 (by simpa using neso), SD24.at u25 (by simpa using neto), fun x => ?_, So25, fun x hx => (mO3 x).mpr (.inl hx), fun x hx => ?_, fun _ => (mO3 y).mpr (.inr ?_)⟩
            · rw [mD3, hD2]
              exact ⟨fun z => z.1, fun z => ⟨z, fun q => inv.apart x (List.mem_of_mem_drop q) z⟩⟩
            · rcases (mO3 x).mp hx with z | z
              · exact so2 x z
              · exact cyc_sound inv.chain htop hyf hjx z
            · obtain ⟨q, e⟩ := List.getElem?_eq_some_iff.mp hjx
              rw [List.mem_iff_getElem]
              exact ⟨0, by rw [List.length_drop]; omega, by rw [List.getElem_drop]; simpa using e⟩
          · rw [decide_eq_false hyS]
            simp only [Bool.false_eq_true, ↓reduceIte]
            exact wpAny_execs_nil ⟨rfl, h20, _, D2, O2, rfl, Upto.refl _ _, l20.pick ⟨rfl, rfl, rfl, rfl, rfl, rfl, trivial⟩, st20, SD20, hD2, So20, fun _ h => h, so2, fun z => absurd z hyS⟩
        obtain ⟨rfl, h21, tk21, D3, O3, rfl, u21, l21, st21, SD21, hD3, So21, hO3, so3, hyO⟩ := hm
        dsimp only
        have u19_21 : Upto [L, o, td] h19 h21 := (u20.mono (by simp)).trans u21
        -- if node in todo
        refine wpAny_execs_cons (wpAny_If (wpAny_isTrue_Compare1 (ldL l21 rfl (ldL l21 rfl (in_iset SD21 (wpAny_truthy_bool ?_))))))
        by_cases hyD : y ∈ D3
        · rw [decide_eq_true hyD]
          simp only [↓reduceIte]
          have hyDx := (hD3 y).mp hyD
          refine wpAny_execs_cons (wpAny_Expr (il_append (ldL l21 rfl ⟨st, Sx, rfl, st21, by omega, ldL l21 rfl ⟨⟨y, ty, rfl, fun h26 st26 sb26 => ?_⟩, Upto.refl _ _⟩⟩)))
          dsimp only
          have u26 : Upto [st] h21 h26 := Upto.same sb26 (.head _)
          have l26 := l21.at u26 (by simpa using nesL.symm)
          have SD26 := SD21.at u26 (by simpa using nest.symm)
          have So26 := So21.at u26 (by simpa using neso.symm)
          refine wpAny_execs_cons (wpAny_Expr (meth1 (ldL l26 rfl ⟨"set", "set.remove", PySem.F.plainAttrs_set, PySem.F.slot_set_remove, PySem.F.type_set_remove, ISet.type (s := { s with heap := h26 }) SD26, ISet.noDict (s := { s with heap := h26 }) SD26,
            ldL l26 rfl (call_remove SD26 hyD fun h27 D4 sb27 SD27 mD4 => ?_)⟩)))
          dsimp only
          have u27 : Upto [td] h26 h27 := Upto.same sb27 (.head _)
          refine wpAny_execs_cons (wpAny_Break ?_)
          dsimp only
          refine wpAny_execs_nil ⟨2 * D4.length + (Sx ++ [y]).length, ?_, h27, _, Sx ++ [y], D4, O3, rfl, ?_, (l26.at u27 (by simpa using netL.symm)).pick ⟨rfl, rfl, rfl, rfl, rfl, trivial⟩, st26.at u27 (by simpa using nest), SD27, So26.at u27 (by simpa using neto.symm), ?_, fun x hx => hO3 x (hO2 x (hOx x hx)), rfl⟩
          · have : (y :: D4).length ≤ Dx.length := nodup_sub_len (List.nodup_cons.mpr ⟨fun z => ((mD4 y).mp z).2 rfl, SD27.nodup⟩) fun x hx => by
              rcases List.mem_cons.mp hx with rfl | z
              · exact hyDx
              · exact (hD3 x).mp ((mD4 x).mp z).1
            rw [List.length_cons] at this
            rw [List.length_append, List.length_singleton]
            omega
          · exact u15_17.trans ((u19.mono (by simp)).trans ((u19_21.mono (by simp)).trans ((u26.mono (by simp)).trans (u27.mono (by simp)))))
          · refine ((inv.grow (fun x hx => hO3 x (hO2 x hx)) so3).push htop hyf hyDx fun x => ?_)
            rw [mD4, hD3]
        · rw [decide_eq_false hyD]
          simp only [Bool.false_eq_true, ↓reduceIte]
          refine wpAny_execs_nil (wpAny_execs_nil ⟨h21, _, rfl, ⟨u19.trans u19_21, l21.pick ⟨rfl, rfl, rfl, rfl, rfl, trivial⟩, D3, O3, st21, SD21, hD3, So21, fun x hx => hO3 x (hO2 x hx), so3, fun z hz => ?_, fun hz => ?_⟩, fun b hb ob e => ?_⟩)
          · rcases (mem_take_succ hy).mp hz with q | rfl
            · exact hno z q
            · exact fun q => hyD ((hD3 _).mpr q)
          · rcases (mem_take_succ hy).mp hz with q | q
            · exact hO3 k (hkO q)
            · rw [q]
              refine hyO ?_
              rw [← q]
              exact List.mem_of_getElem? hS0
          · have hbn : b ≠ L ∧ b ≠ o ∧ b ≠ td := by
              rcases List.mem_cons.mp hb with rfl | hb
              · exact ⟨neLI1.symm, neoI1.symm, netI1.symm⟩
              · rw [List.mem_singleton.mp hb]; exact neap
            exact u19_21 b ob (by simp [hbn.1, hbn.2.1, hbn.2.2]) e
      · rintro h28 tk28 ⟨u28, l28, D2, O2, st28, SD28, hD2, So28, hO2, so2, hno, hkO⟩
        rw [List.take_length] at hno hkO
        -- stack.pop()
        obtain ⟨vst, pst, ist⟩ := id st28
        refine wpAny_execs_cons (wpAny_Expr (meth0 (ldL l28 rfl ⟨"list", "list.pop", PySem.F.plainAttrs_list, PySem.F.slot_list_pop, PySem.F.type_list_pop, pst.list.typeIs, (let ⟨_, ho⟩ := pst; IsList.noDict' ho), il_pop st28 hSne (by omega) fun h29 kp tp st29 sb29 => ?_⟩)))
        dsimp only
        have u29 : Upto [st] h28 h29 := Upto.same sb29 (.head _)
        refine wpAny_execs_nil ?_
        dsimp only
        refine wpAny_execs_nil ⟨2 * D2.length + Sx.dropLast.length, ?_, h29, _, Sx.dropLast, D2, O2, rfl, ?_, l28.at u29 (by simpa using nesL.symm), st29, SD28.at u29 (by simpa using nest.symm), So28.at u29 (by simpa using neso.symm), ?_, fun x hx => hO2 x (hOx x hx), rfl⟩
        · have h1 : D2.length ≤ Dx.length := nodup_sub_len SD28.nodup fun x hx => (hD2 x).mp hx
          have h2 : Sx.length ≠ 0 := fun e => hSne (List.length_eq_zero_iff.mp e)
          rw [List.length_dropLast]
          omega
        · exact u15_17.trans ((u28.mono (by simp)).trans (u29.mono (by simp)))
        · refine (((inv.grow hO2 so2).pop htop (fun y hy => hno y ((husf y).mpr hy)) fun hv => hkO ((husf k).mpr hv)).same hD2)
  · rintro h' tk' ⟨u, lo, O, SO, so, co⟩
    refine wpAny_execs_nil ?_
    refine wpAny_execs_cons (wpAny_Return_some (ldL lo rfl ?_))
    have u1 := u16.trans u
    refine h h' tk' o O (fun b ob hb e => u1 b ob (by simpa using ne_of_none e fL) (U1 b ob (by simp) e)) ?_ SO fun x => ?_
    · cases e : s.heap.get? o with
      | none => rfl
      | some ob =>
        have := u16 o ob (by simpa using neoL) (U1 o ob (by simp) e)
        rw [fo] at this; cases this
    · have cg : Path f x x ↔ Path (fOf ps) x x := ⟨fun p => p.congr hf', fun p => p.congr fun k x => (hf' k x).symm⟩
      rw [← cg]
      refine ⟨so x, fun p => co x ?_ p⟩
      rw [List.take_length]
      exact pvs.mem_iff.mpr ((hNf x).mpr (path_first p))
end
end Mine
end

section
open PySem PySem.W PySem.Calls PyProof.Rows
set_option Elab.async false
set_option maxRecDepth 100000
namespace Mine

/-- an object whose class is one of C's own, or the program's 49 whose line holds no StopIteration -/
def NoStop (M : Model) (s : Shared) (e : Value) : Prop := ∀ (A : Around) (Q : Bool → Shared → Prop) (E : Value → Shared → Prop), Q false s → wpAny M A (isInstance e (.type "StopIteration")) Q E s

section
variable {prog : Program} {w : World} {A : Around} {E : Value → Shared → Prop} {s : Shared}

theorem madeByALambda_no {M : Model} {g : Nat} {a : Addr} {Q : Bool → Shared → Prop} (hg : s.heap.IsGen a g) (h : Q false s) : wpAny M A (Builtin.Generator.madeByALambda (.ref a)) Q E s := by
  obtain ⟨o, nm, qn, ho, hc, hd, hs⟩ := hg
  unfold Builtin.Generator.madeByALambda
  refine wpAny_bind (wpAny_load ho ?_)
  rw [hc, hd]
  exact wpAny_pure h

theorem next_gen {a : Addr} {g n : Nat} {gs : GenState} {R : GenEnd} {Y : Protocol} {Q : Option Value → Shared → Prop} (hh : A.handled = none)
    (hl : s.heap.NoLimit) (hroom : A.depth < recursionLimit) (hg : s.heap.IsGen a g) (hgs : s.gens[g]? = some gs)
    (hgo : gs.Goes (model prog w) A.in1 R Y n (.send .none) (s.setGen g .running))
    (hY : ∀ v s₁ gs', Y (n - 1) (s.setGen g .running) v s₁ (fun r' s'' => match n with
        | 0 => False
        | m + 1 => gs'.Goes (model prog w) A.in1 R Y m r' s'') → Q (some v) (s₁.setGen g gs'))
    (hR : ∀ r s₁, R n (s.setGen g .running) r s₁ → (r = .ok (.ret .none) ∧ ∀ h', Upto [] s₁.heap h' → Q none { s₁.setGen g .finished with heap := h' }) ∨
      ∃ e, r = .error e ∧ s₁.heap.IsGen a g ∧ NoStop (model prog w) (s₁.setGen g .finished) e ∧ E e (s₁.setGen g .finished)) :
    wpAny (model prog w) A (pyNext (.ref a)) Q E s := by
  unfold pyNext
  refine wpAny_bind (wpAny_attempt (wpAny_callSpecial?_slot (name := Str.ofString "__next__") hg.typeIs slot_gen_next
    (wpAny_call_entry slot_gen_next hg.typeIs entry_gen_next ?_ (args_gen_next _))))
  show wpAny _ _ (Builtin.Generator.genWake (.ref a) (.send .none)) _ _ s
  unfold Builtin.Generator.genWake
  refine wpAny_bind (wpAny_holding (wpAny_genNumber hg (wpAny_bind (wpAny_genState hgs ?_))))
  cases gs with
  | running => exact hgo.elim
  | finished => exact hgo.elim
  | _ =>
    refine wpAny_bind (wpAny_roomToWake hl hroom ?_)
    show wpAny _ _ (.resume g (.send .none) [] _) _ _ s
    refine wpAny_resume hgs hgo (fun x s₁ hx => ?_) (fun v s₁ gs' hv => ?_)
    · rcases hR x s₁ hx with ⟨rfl, hq⟩ | ⟨e, rfl, hga, hns, hq⟩
      · show wpAny _ _ (newExc (.type "StopIteration") [] >>= _) _ _ _
        refine wpAny_bind ?_
        simp only [newExc, newTuple]
        refine wpAny_bind (wpAny_newObj_type ?_ (by size_fits))
        refine wpAny_bind (m := firstArgMember _ _) (wpAny_of_eq (a := Value.none) (by first | rfl | (simp only [firstArgMember]; rfl)) ?_)
        refine wpAny_newObj_type ?_ (by size_fits)
        simp only [raiseNew]
        refine wpAny_bind (wpAny_bind (wpAny_handled ?_))
        rw [show A.in1.handled = none from hh]
        refine wpAny_throw ?_
        refine wpAny_bind (wpAny_isInstance (T := "StopIteration") (b := true) ⟨_, Heap.get?_push_size _ rfl, rfl⟩ isSubtype_stop ?_)
        exact wpAny_pure (hq _ fun b o _ hb => Heap.get?_push_of_some _ (Heap.get?_push_of_some _ hb))
      · show wpAny _ _ (Builtin.Generator.genLeft (.ref a) e) _ _ _
        unfold Builtin.Generator.genLeft
        refine wpAny_bind (m := Builtin.Generator.madeByALambda _) (madeByALambda_no (s := s₁.setGen g .finished) hga ?_)
        refine wpAny_bind (hns _ _ _ ?_)
        rw [if_neg (by simp)]
        unfold Builtin.Generator.genEscaped
        refine wpAny_bind (hns _ _ _ ?_)
        rw [if_pos (by decide)]
        refine wpAny_throw ?_
        refine wpAny_bind (hns _ _ _ ?_)
        exact wpAny_throw hq
    · exact wpAny_pure ⟨v, rfl, wpAny_pure (hY v s₁ gs' hv)⟩

/-- a call of an own generator function -/
theorem call_gen {K : Frag} {R : Result → Shared → Prop} {a : Addr} {o : Obj} {fd : FuncData} {body : List Stmt} {args : List Value} {binds : List (Str × Value)}
    (B : Base K s.heap) (ho : K.lookup a = some o) (hd : o.data = .func fd) (hcd : codeIn K fd.code fd.qualname = true) (hroom : A.depth < recursionLimit)
    (hbody : fd.body = .stmts body) (hbind : bindArgs fd ⟨args, []⟩ = pure binds) (hcl : fd.closure = [])
    (hkind : ∀ n, (binds.all fun x => (fd.scope.names.lookup x.1 == some .local) || ((fd.scope.names.lookup x.1 == some .cell) && ((cellsFrom n fd.scope.names []).lookup x.1).isSome)) = true)
    (h : ∀ h1 tk h2 r, Upto [] s.heap h1 → h1.Ns s.heap.objs.size (bindL (fnEnv fd s.heap.objs.size a).kindOf binds fun _ => none) →
      (∀ n c, (cellsFrom (s.heap.objs.size + 1) fd.scope.names []).lookup n = some c → h1.IsCell c (bindC (fnEnv fd s.heap.objs.size a).kindOf binds (fun _ => none) n)) →
      (∀ n c, (n, c) ∈ cellsFrom (s.heap.objs.size + 1) fd.scope.names [] → s.heap.objs.size < c) →
      Upto [] h1 h2 → h1.get? r = none → h2.IsGen r s.gens.size →
      R (.ok (.ret (.ref r))) { s with heap := h2, toks := tk, gens := s.gens.push (.fresh (.func body (fnEnv fd s.heap.objs.size a))) })
    (hco : fd.scope.isCoroutine = false := by rfl) (hgen : fd.scope.isGenerator = true := by rfl) (hk : fd.scope.kind = .function := by rfl) :
    codeAny (model prog w) A (.call (.ref a) ⟨args, []⟩) R s := by
  refine codeAny_call_generator hroom (B.1 _ _ ho) hd hco hgen hbody (codeRec_of B.1 hcd) ?_
  rw [hbind, hcl]
  refine wpAny_pure (wpAny_newFunctionEnv_cells hk (fun x hx => ?_) fun env' he s' x => ?_)
  · have := List.all_eq_true.mp (hkind (s.heap.objs.size + 1)) x hx
    simp only [Bool.or_eq_true, Bool.and_eq_true, beq_iff_eq] at this
    exact this
  · subst he
    obtain ⟨h₁, tk, rfl, keep⟩ := x.done
    refine ⟨B.nolimit.keeps keep, ?_⟩
    refine h h₁ _ _ _ (fun b o _ e => keep b o e) x.toInCall.ns x.cell x.above (Upto.push _) get_none_size ?_
    exact ⟨_, _, _, Heap.get?_push_size _ rfl, rfl, rfl, rfl⟩
end
end Mine
end

section
open PySem PySem.W PySem.Calls PyProof.Rows
set_option Elab.async false
set_option maxRecDepth 100000
namespace Mine

/-- those that wait for nobody left -/
def ready (ps : List (Int × Int)) (T : List Int) : List Int := T.filter fun n => decide (∀ t, t ∈ T → (t, n) ∉ ps)
def rest (ps : List (Int × Int)) (T : List Int) : List Int := T.filter fun n => decide (n ∉ ready ps T)
def todoAt (ps : List (Int × Int)) (T : List Int) : Nat → List Int
  | 0 => T
  | k + 1 => rest ps (todoAt ps T k)
theorem ready_sub {ps : List (Int × Int)} {T : List Int} {n : Int} (h : n ∈ ready ps T) : n ∈ T := (List.mem_filter.mp h).1
theorem mem_rest {ps : List (Int × Int)} {T : List Int} {n : Int} : n ∈ rest ps T ↔ n ∈ T ∧ n ∉ ready ps T := by simp [rest, List.mem_filter]
theorem filter_lt {α : Type} (p : α → Bool) : ∀ (l : List α) (x : α), x ∈ l → p x = false → (l.filter p).length < l.length
  | [], x, hx, _ => absurd hx List.not_mem_nil
  | y :: l, x, hx, hp => by
    rcases List.mem_cons.mp hx with rfl | hx
    · rw [List.filter_cons, hp]
      simp only [Bool.false_eq_true, if_false, List.length_cons]
      exact Nat.lt_succ_of_le (List.length_filter_le ..)
    · have := filter_lt p l x hx hp
      rw [List.filter_cons]
      split <;> simp only [List.length_cons] <;> omega
theorem rest_lt {ps : List (Int × Int)} {T : List Int} (h : ready ps T ≠ []) : (rest ps T).length < T.length := by
  cases e : ready ps T with
  | nil => exact absurd e h
  | cons x r =>
    have hx : x ∈ ready ps T := by rw [e]; exact .head _
    exact filter_lt _ T x (ready_sub hx) (by simp [hx])
theorem todoAt_sub {ps : List (Int × Int)} {T : List Int} : ∀ {k : Nat} {n : Int}, n ∈ todoAt ps T k → n ∈ T
  | 0, _, h => h
  | k + 1, _, h => todoAt_sub (k := k) (mem_rest.mp h).1
theorem todoAt_len {ps : List (Int × Int)} {T : List Int} : ∀ k, (todoAt ps T k).length ≤ T.length
  | 0 => Nat.le_refl _
  | k + 1 => Nat.le_trans (List.length_filter_le ..) (todoAt_len k)

section
variable {prog : Program} {w : World} {A : Around} {E : Value → Shared → Prop} {R : Result → Shared → Prop} {s : Shared} {env : Env} {bs : List (Str × Value)}

theorem il_iter {A' : Around} {x : Addr} {ns : List Int} {Q : Value → Shared → Prop} (hh : A'.handled = none) (S : IL s.heap x ns)
    (h : ∀ (I : Addr) (h' : Heap), Upto [] s.heap h' → s.heap.get? I = none → (∃ o, h'.get? I = some o ∧ o.cls = .type "list_iterator") →
      Walks prog w A' I [I, x] [I] ns.length (fun i v => ∃ n t, ns[i]? = some n ∧ v = .int n t) (fun i h => h.IsListIter I x i ∧ ∃ vs, h.IsList x vs.toArray ∧ IntsAre vs ns) → (h'.IsListIter I x 0 ∧ ∃ vs, h'.IsList x vs.toArray ∧ IntsAre vs ns) → Q (.ref I) { s with heap := h' }) :
    wpAny (model prog w) A (pyIter (.ref x)) Q E s := by
  obtain ⟨vs, p, i⟩ := S
  have hl := p.list
  refine wpAny_pyIter_list hl ?_
  obtain ⟨ol, hol, _⟩ := IsList.get hl
  have ne : x ≠ s.heap.objs.size := ne_size hol
  have u : Upto [] s.heap (s.heap.push { cls := .type "list_iterator", data := .fields #[.ref x, .int 0 0] }) := Upto.push _
  refine h s.heap.objs.size _ u get_none_size ⟨_, Heap.get?_push_size _ rfl, rfl⟩ ?_ ⟨⟨_, Heap.get?_push_size _ rfl, rfl, rfl⟩, vs, IsList.at hl u (by simp), i⟩
  have W := fun (us : List Value) => Walks.list (prog := prog) (w := w) hh s.heap.objs.size x ne us.toArray
  refine ⟨fun a b => (W []).sub a b, fun i h h' hs k => ?_, fun i s Q E hi hs hQ => ?_, fun s Q E hs hQ => ?_, fun i s Q E hs hQ => ?_⟩
  · obtain ⟨h1, us, h2, h3⟩ := hs
    have := (W us).frame i h h' ⟨h1, h2⟩ k
    exact ⟨this.1, us, this.2, h3⟩
  · obtain ⟨h1, us, h2, h3⟩ := hs
    have hle : us.toArray.size = ns.length := by rw [List.size_toArray, h3.length]
    refine (W us).item i s Q E (by rw [hle]; exact hi) ⟨h1, h2⟩ fun v h' tk hv hst hk => hQ v h' tk ?_ ⟨hst.1, us, hst.2, h3⟩ hk
    simp only [List.getElem?_toArray] at hv
    obtain ⟨t, ht⟩ := ints_get h3 (List.getElem?_eq_getElem hi)
    rw [ht] at hv
    exact ⟨_, t, List.getElem?_eq_getElem hi, (Option.some.inj hv).symm⟩
  · obtain ⟨h1, us, h2, h3⟩ := hs
    have hle : us.toArray.size = ns.length := by rw [List.size_toArray, h3.length]
    exact (W us).done s Q E ⟨hle ▸ h1, h2⟩ hQ
  · obtain ⟨h1, us, h2, h3⟩ := hs
    exact (W us).self i s Q E ⟨h1, h2⟩ hQ
end
end Mine
end

section
open PySem PySem.W PySem.Calls PyProof.Rows
set_option Elab.async false
set_option maxRecDepth 100000
namespace Mine

section
variable {prog : Program} {w : World} {A : Around} {E : Value → Shared → Prop} {R : Result → Shared → Prop} {s : Shared} {env : Env} {bs : List (Str × Value)}

theorem ne_cell {h : Heap} {c a : Addr} {v : Option Value} {o : Obj} (x : h.IsCell c v) (ho : h.get? a = some o) (hd : ∀ u, o.data ≠ .cell u) : a ≠ c := by
  obtain ⟨o', ho', hd'⟩ := x
  exact data_ne ho ho' (by rw [hd']; exact hd v)

/-- for node in todo: if todo_set.isdisjoint(edges[node]): output.append(node) -/
theorem ready_for {np sp tsp ap ep kp bp cp op oap onp ocp xp ip fp : Pos} {td ts d out c : Addr} {T Ts : List Int} {m : List (Int × Addr)} {f : Int → List Int} {ps : List (Int × Int)} {Q : Flow → Shared → Prop}
    (hh : A.handled = none) (l : Loc s.heap env.locals [(Str.ofString "output", .ref out), (Str.ofString "todo", .ref td), (Str.ofString "edges", .ref d), (Str.ofString "tuples", bs0), (Str.ofString "allitems", bs1)])
    (hT : IL s.heap td T) (hts : ISet w false s.heap ts Ts) (hTs : ∀ x, x ∈ Ts ↔ x ∈ T) (hTb : Tb w s.heap d ddN ddS m f) (hf : ∀ k x, x ∈ f k ↔ (x, k) ∈ ps) (ho : IL s.heap out []) (hc : s.heap.IsCell c (some (.ref ts)))
    (h6 : ∀ n, n ∈ T → n ∈ six) (hlen : T.length ≤ 1000) (hms : ∀ p, p ∈ m → p.2 ≠ ts) (hot : out ≠ td) (hdL' : d ≠ env.locals)
    (h : ∀ h' tk m', Upto [env.locals, d, out] s.heap h' → Loc h' env.locals [(Str.ofString "output", .ref out), (Str.ofString "todo", .ref td), (Str.ofString "edges", .ref d), (Str.ofString "tuples", bs0), (Str.ofString "allitems", bs1)] →
      Tb w h' d ddN ddS m' f → (∀ p, p ∈ m' → p ∈ m ∨ s.heap.get? p.2 = none) → IL h' out (ready ps T) → Q .next { s with heap := h', toks := tk })
    (hkind : env.scope.kind = .function := by rfl) (hl1 : env.kindOf (Str.ofString "node") = some .local := by rfl) (hl2 : env.kindOf (Str.ofString "todo") = some .local := by rfl) (hl3 : env.kindOf (Str.ofString "edges") = some .local := by rfl)
    (hl4 : env.kindOf (Str.ofString "output") = some .local := by rfl) (hl5 : env.kindOf (Str.ofString "todo_set") = some .cell := by rfl) (hcl : env.cells.lookup (Str.ofString "todo_set") = some c := by rfl)
    (hp : (env.scope.kind == .class || (env.scope.kind == .module && env.locals != env.globals)) = false := by rfl)
    (hi : interactive env = false := by rfl) (hline : (oap.endLine == ocp.line) = true := by rfl) (hline2 : (ap.endLine == cp.line) = true := by rfl) :
    wpAny (model prog w) A (exec (.For (.Name (Str.ofString "node") np) (.Name (Str.ofString "todo") sp) [.If (.Call (.Attribute (.Name (Str.ofString "todo_set") tsp) (Str.ofString "isdisjoint") ap) [.Subscript (.Name (Str.ofString "edges") ep) (.Name (Str.ofString "node") kp) bp] [] cp)
      [.Expr (.Call (.Attribute (.Name (Str.ofString "output") op) (Str.ofString "append") oap) [.Name (Str.ofString "node") onp] [] ocp) xp] [] ip] [] fp) env) Q E s := by
  refine wpAny_For (ldL l rfl (il_iter (A' := A) hh hT fun I h1 u1 fI hI W st => ?_) hkind hl2 (by decide))
  obtain ⟨oI, hoI, hcI⟩ := hI
  obtain ⟨oL, esL, epL, hoL, hdL⟩ := l.get
  have neLI : env.locals ≠ I := ne_of_none hoL fI
  obtain ⟨od, hod, hcd⟩ := hTb.get
  have nedI : d ≠ I := ne_of_none hod fI
  obtain ⟨ots, hots, hcts⟩ := hts.get
  have netsI : ts ≠ I := ne_of_none hots fI
  obtain ⟨oo, hoo, hco⟩ := ho.get
  have neoI : out ≠ I := ne_of_none hoo fI
  obtain ⟨ot, hot', hct⟩ := hT.get
  have netI : td ≠ I := ne_of_none hot' fI
  obtain ⟨oc, hoc, hdc⟩ := id hc
  have necI : c ≠ I := ne_of_none hoc fI
  have hoL' : out ≠ env.locals := l.ne_il ho
  have hsL' : ts ≠ env.locals := l.ne_set hts
  have hcL' : c ≠ env.locals := by
    refine data_ne hoc hoL ?_
    rw [hdc, hdL]; exact fun e => nomatch e
  have hdo : d ≠ out := cls_ne hod hoo (by rw [hcd, hco]; decide)
  have hds : ts ≠ d := cls_ne hots hod (by rw [hcts, hcd]; decide)
  have hso : ts ≠ out := cls_ne hots hoo (by rw [hcts, hco]; decide)
  have hcd' : c ≠ d := by
    obtain ⟨ep0, es, e1, _⟩ := hTb.dt
    exact data_ne hoc e1 (by rw [hdc]; exact fun e => nomatch e)
  have hco' : c ≠ out := by
    obtain ⟨vs, ⟨n, hp⟩, _⟩ := id ho
    exact data_ne hoc hp (by rw [hdc]; exact fun e => nomatch e)
  have htd : td ≠ d := cls_ne hot' hod (by rw [hct, hcd]; decide)
  have htL : td ≠ env.locals := l.ne_il hT
  let J : Nat → Heap → Prop := fun i h => Upto [env.locals, d, out] s.heap h ∧ Loc h env.locals [(Str.ofString "output", .ref out), (Str.ofString "todo", .ref td), (Str.ofString "edges", .ref d), (Str.ofString "tuples", bs0), (Str.ofString "allitems", bs1)] ∧
    ∃ m', Tb w h d ddN ddS m' f ∧ (∀ p, p ∈ m' → (p ∈ m ∨ s.heap.get? p.2 = none) ∧ p.2 ≠ I) ∧ IL h out ((T.take i).filter fun n => decide (∀ t, t ∈ T → (t, n) ∉ ps))
  refine for_walk W (J := J) st ⟨u1.mono (by simp), l.at u1 (by simp), m, hTb.at u1 (by simp) (by simp), fun p hp => ⟨.inl hp, ?_⟩, by simpa using ho.at u1 (by simp)⟩ ?_ ?_ ?_
  · obtain ⟨o, ho, _⟩ := hTb.sets hp
    exact ne_of_none ho fI
  · rintro i h h' ⟨u, lo, m', T', hm', o'⟩ v
    exact ⟨u.write v fun b hb => .inl (by rw [List.mem_singleton.mp hb]; exact fI), lo.at v (by simpa using neLI), m', T'.at v (by simpa using nedI) (fun p hp => by simpa using (hm' p hp).2), hm', o'.at v (by simpa using neoI)⟩
  · rintro i v h2 tk2 hi2 ⟨n, t, hn, rfl⟩ hst ⟨u2, l2, m2, T2, hm2, o2⟩
    refine letOwn_name (wpAny_assign_Name (stL l2 (fun h3 l3 sb3 => ?_) hl1 hp))
    replace l3 : Loc h3 env.locals _ := l3
    have u3 : Upto [env.locals] h2 h3 := Upto.same sb3 (.head _)
    have hnT : n ∈ T := List.mem_of_getElem? hn
    have T3 : Tb w h3 d ddN ddS m2 f := T2.at u3 (by simpa using hdL') fun p hp => by simpa using T2.ne_loc l2 hp
    have u03 : Upto [env.locals, d, out] s.heap h3 := u2.trans (u3.mono (by simp))
    have S3 : ISet w false h3 ts Ts := hts.at u03 (by simp [hsL', hds, hso])
    have c3 : h3.IsCell c (some (.ref ts)) := IsCell.at hc u03 (by simp [hcL', hcd', hco'])
    have o3 := o2.at u3 (by simpa using hoL')
    have il3I : ∀ {b : Addr}, b ∈ [I, td] → ∀ o, h2.get? b = some o → b ≠ d ∧ b ≠ out ∧ b ≠ env.locals := by
      intro b hb o _
      rcases List.mem_cons.mp hb with rfl | hb
      · exact ⟨nedI.symm, neoI.symm, neLI.symm⟩
      · rw [List.mem_singleton.mp hb]; exact ⟨htd, hot.symm, htL⟩
    let Qm : Flow → Shared → Prop := fun fl s' => fl = .next ∧ ∃ h' tk', s' = { s with heap := h', toks := tk' } ∧ J (i + 1) h' ∧ ∀ b, b ∈ [I, td] → ∀ o, h2.get? b = some o → h'.get? b = some o
    have main : ∀ (E1 E' : Value → Shared → Prop) (h4 : Heap) (tk4 : Nat) (m4 : List (Int × Addr)) (a : Addr), Upto [d] h3 h4 → Tb w h4 d ddN ddS m4 f → look m4 n = some a → (∀ p, p ∈ m4 → (p ∈ m ∨ s.heap.get? p.2 = none) ∧ p.2 ≠ I) → Loc h4 env.locals ((Str.ofString "node", .int n t) :: [(Str.ofString "output", .ref out), (Str.ofString "todo", .ref td), (Str.ofString "edges", .ref d), (Str.ofString "tuples", bs0), (Str.ofString "allitems", bs1)]) →
        wpAny (model prog w) A (call (.builtin "set.isdisjoint") [.ref ts, .ref a]) (fun v s' => wpAny (model prog w) A (truthy v) (fun b s4 => if b = true then wpAny (model prog w) A (execs [.Expr (.Call (.Attribute (.Name (Str.ofString "output") op) (Str.ofString "append") oap) [.Name (Str.ofString "node") onp] [] ocp) xp] env) Qm E1 s4
          else wpAny (model prog w) A (execs [] env) Qm E1 s4) E' s') E' { s with heap := h4, toks := tk4 } := by
      intro E1 E' h4 tk4 m4 a u4 T4 hlk hm4 l4
      have ham := look_mem hlk
      have Sa := T4.set _ ham
      have S4 : ISet w false h4 ts Ts := S3.at u4 (by simpa using hds)
      have nea : ts ≠ a := by
        intro e
        rcases (hm4 _ ham).1 with q | q
        · exact hms _ q e.symm
        · rw [show (n, a).2 = ts from e.symm] at q
          rw [hots] at q; cases q
      refine call_disj S4 Sa nea (wpAny_truthy_bool ?_)
      have hb : (Ts.all fun k => !(f n).contains k) = decide (∀ t, t ∈ T → (t, n) ∉ ps) := by
        rw [Bool.eq_iff_iff, List.all_eq_true, decide_eq_true_eq]
        constructor
        · intro q t ht e
          have := q t ((hTs t).mpr ht)
          rw [List.contains_iff_mem.mpr ((hf n t).mpr e)] at this
          cases this
        · intro q x hx
          have := q x ((hTs x).mp hx)
          cases e : (f n).contains x with
          | false => rfl
          | true => exact absurd ((hf n x).mp (List.contains_iff_mem.mp e)) this
      rw [hb]
      have o4 := o3.at u4 (by simpa using hdo.symm)
      have u04 : Upto [env.locals, d, out] s.heap h4 := u03.trans (u4.mono (by simp))
      have tk' := List.take_add_one (l := T) (i := i)
      rw [hn] at tk'
      by_cases hr : ∀ t, t ∈ T → (t, n) ∉ ps
      · rw [decide_eq_true hr]
        simp only [↓reduceIte]
        refine wpAny_execs_cons (wpAny_Expr (il_append (ldL l4 rfl ⟨out, _, rfl, o4, ?_, ldL l4 rfl ⟨⟨n, t, rfl, fun h5 o5 sb5 => ?_⟩, Upto.refl _ _⟩ hkind hl1 (by decide)⟩ hkind hl4 (by decide)) rfl hline rfl) hi rfl)
        · refine Nat.le_trans (List.length_filter_le ..) (Nat.le_trans (List.length_take_le ..) ?_); omega
        dsimp only
        have u5 : Upto [out] h4 h5 := Upto.same sb5 (.head _)
        refine wpAny_execs_nil ⟨rfl, h5, _, rfl, ⟨u04.trans (u5.mono (by simp)), (l4.at u5 (by simpa using hoL'.symm)).pick ⟨rfl, rfl, rfl, rfl, rfl, trivial⟩, m4, T4.at u5 (by simpa using hdo) (fun p hp => ?_), hm4, ?_⟩, fun b hb o e => ?_⟩
        · obtain ⟨o, ho, hc'⟩ := T4.sets hp
          obtain ⟨o', ho', hc2⟩ := o4.get
          simpa using cls_ne ho ho' (by rw [hc', hc2]; decide)
        · rw [tk', List.filter_append]
          have : List.filter (fun n => decide (∀ t, t ∈ T → (t, n) ∉ ps)) (some n).toList = [n] := by
            simp only [Option.toList, List.filter_cons, decide_eq_true hr]; rfl
          rw [this]; exact o5
        · have q := il3I hb o e
          exact u5.at (u4.at (u3.at e (by simpa using q.2.2)) (by simpa using q.1)) (by simpa using q.2.1)
      · rw [decide_eq_false hr]
        simp only [Bool.false_eq_true, ↓reduceIte]
        refine wpAny_execs_nil ⟨rfl, h4, _, rfl, ⟨u04, l4.pick ⟨rfl, rfl, rfl, rfl, rfl, trivial⟩, m4, T4, hm4, ?_⟩, fun b hb o e => ?_⟩
        · rw [tk', List.filter_append]
          have : List.filter (fun n => decide (∀ t, t ∈ T → (t, n) ∉ ps)) (some n).toList = [] := by
            simp only [Option.toList, List.filter_cons, decide_eq_false hr]; rfl
          rw [this, List.append_nil]; exact o4
        · have q := il3I hb o e
          exact u4.at (u3.at e (by simpa using q.2.2)) (by simpa using q.1)
    refine wpAny_execs_cons (wpAny_mono (Q := Qm) (wpAny_If (wpAny_isTrue_value ?_)) (fun fl s' hm => ?_) fun _ _ e => e)
    · refine meth1 (ldC c3 ⟨"set", "set.isdisjoint", PySem.F.plainAttrs_set, PySem.F.slot_set_isdisjoint, PySem.F.type_set_isdisjoint, ISet.type (s := { s with heap := h3, toks := tk2 + 1 }) S3, ISet.noDict (s := { s with heap := h3, toks := tk2 + 1 }) S3, ?_⟩ hcl hkind hl5) rfl hline2 rfl
      obtain ⟨ep0, D⟩ := T3.dt
      refine wpAny_Subscript_Name (T := ddN) (id := "dict.__getitem__") DD.slot_getitem.lookup (ldL l3 rfl (ldL l3 rfl ⟨D.type, ?_⟩ hkind hl1 (by decide)) hkind hl3 (by decide))
      cases hlk : look m2 n with
      | some a => exact getItem_hit D hlk (main _ _ h3 _ m2 a (Upto.refl _ _) T3 hlk hm2 l3)
      | none =>
        have fn : h3.get? h3.objs.size = none := get_none_size
        refine getItem_miss D hlk (by have := T3.len; omega) fun h4 tk4 u4 D4 e4 _ => ?_
        have T4 : Tb w h4 d ddN ddS (m2 ++ [(n, h3.objs.size)]) f := T3.fresh u4 D4 (by decide) e4 (fun p hp => by obtain ⟨o, ho, _⟩ := T3.sets hp; exact ne_of_none ho fn) hlk (six_eight (h6 n hnT))
        dsimp only at u4 T4 ⊢
        refine main _ _ h4 tk4 _ h3.objs.size u4 T4 (look_of D4.nodup (List.mem_append_right _ (List.mem_singleton.mpr rfl))) (fun p hp => ?_) (l3.at u4 (by simpa using hdL'.symm))
        rcases List.mem_append.mp hp with z | z
        · exact hm2 p z
        · rw [List.mem_singleton.mp z]
          obtain ⟨⟨o2I, h2I, _⟩, _⟩ := hst
          have h3I : h3.get? I = some o2I := u3.at h2I (by simpa using neLI.symm)
          refine ⟨.inr (u03.none_size fun b hb => ?_), (ne_of_none h3I fn).symm⟩
          simp only [List.mem_cons, List.not_mem_nil, or_false] at hb
          rcases hb with rfl | rfl | rfl
          · obtain ⟨o, _, _, ho, _⟩ := l3.get; exact ⟨o, ho⟩
          · obtain ⟨o, ho, _⟩ := T3.get; exact ⟨o, ho⟩
          · obtain ⟨o, ho, _⟩ := o3.get; exact ⟨o, ho⟩
    · obtain ⟨rfl, h', tk', rfl, hJ, hk⟩ := hm
      exact wpAny_execs_nil ⟨h', tk', rfl, hJ, hk⟩
  · rintro h' tk' ⟨u, lo, m', T', hm', o'⟩
    rw [List.take_length] at o'
    exact wpAny_execs_nil (h h' tk' m' u lo T' (fun p hp => (hm' p hp).1) o')
end
end Mine
end

section
open PySem PySem.W PySem.Calls PyProof.Rows
set_option Elab.async false
set_option maxRecDepth 100000
namespace Mine

theorem ints_filter {p : Value → Bool} {q : Int → Bool} : ∀ {vs : List Value} {ns : List Int}, IntsAre vs ns → (∀ n t, p (.int n t) = q n) → IntsAre (vs.filter p) (ns.filter q)
  | _, _, .nil, _ => .nil
  | _, _, .cons n t h, k => by
    rw [List.filter_cons, List.filter_cons, k n t]
    cases q n with
    | true => exact .cons n t (ints_filter h k)
    | false => exact ints_filter h k
theorem ints_get' {vs : List Value} {ns : List Int} (h : IntsAre vs ns) : ∀ {i : Nat} {v : Value}, vs[i]? = some v → ∃ n t, v = .int n t := by
  induction h with
  | nil => intro i v e; simp at e
  | cons m t _ ih =>
    intro i v e
    cases i with
    | zero => simp at e; exact ⟨m, t, e.symm⟩
    | succ i => exact ih (by simpa using e)
theorem paired_eq : ∀ {vs us : List Value}, Paired (fun a b => a = b) vs us → vs = us := by
  intro vs us h
  induction h with
  | nil => rfl
  | cons h _ ih => rw [h, ih]

section
variable {prog : Program} {w : World} {A : Around} {E : Value → Shared → Prop} {R : Result → Shared → Prop} {s : Shared} {env : Env} {bs : List (Str × Value)}

/-- todo = [t for t in todo if t in todo_set] -/
theorem todo_comp {np tp ip ep kp cp xp sp : Pos} {td ts c : Addr} {T Ts : List Int} {Q : Flow → Shared → Prop} {scope : Scope} {cl : List (Str × Addr)}
    (hh : A.handled = none) (l : Loc s.heap env.locals bs) (hb : bs.lookup (Str.ofString "todo") = some (.ref td))
    (hT : IL s.heap td T) (hts : ISet w false s.heap ts Ts) (hc : s.heap.IsCell c (some (.ref ts))) (hlen : T.length ≤ 1000)
    (h : ∀ h' tk r, Upto [env.locals] s.heap h' → s.heap.get? r = none → IL h' r (T.filter fun n => decide (n ∈ Ts)) → Loc h' env.locals ((Str.ofString "todo", .ref r) :: bs) → Q .next { s with heap := h', toks := tk })
    (hsw : swapsWith (.ListComp (.Name (Str.ofString "t") ep) [⟨.Name (Str.ofString "t") tp, .Name (Str.ofString "todo") ip, [.Compare (.Name (Str.ofString "t") kp) [.In] [.Name (Str.ofString "todo_set") cp] xp], 0⟩] scope sp) (some (.Name (Str.ofString "todo") np)) spos.line env = pure true)
    (hclos : closureFor scope env = pure cl) (hcell : ∀ z ∈ scope.names, z.2 ≠ .cell) (hkind : scope.kind = .function)
    (hnames : ∀ z ∈ scope.names, z.2 = .local → scope.names.lookup z.1 = some .local) (hx : scope.names.lookup (Str.ofString "t") = some .local)
    (hk2 : ∀ C, (compEnvC scope cl C env).kindOf (Str.ofString "todo_set") = some .cell) (hc2 : cl.lookup (Str.ofString "todo_set") = some c)
    (hy : env.kindOf (Str.ofString "todo") = some .local := by rfl) (hkd : env.scope.kind = .function := by rfl) (hp : (env.scope.kind == .class || (env.scope.kind == .module && env.locals != env.globals)) = false := by rfl) :
    wpAny (model prog w) A (exec (.Assign [.Name (Str.ofString "todo") np] (.ListComp (.Name (Str.ofString "t") ep) [⟨.Name (Str.ofString "t") tp, .Name (Str.ofString "todo") ip, [.Compare (.Name (Str.ofString "t") kp) [.In] [.Name (Str.ofString "todo_set") cp] xp], 0⟩] scope sp) spos) env) Q E s := by
  refine wpAny_Assign_ListComp_free (p := fun v => decide (cI v ∈ Ts)) (F := fun a b => a = b) hsw hclos hcell hkind hnames hx hy hp ?_
  refine ldL l hb ?_ hkd hy (by decide)
  obtain ⟨vs, pT, iT⟩ := id hT
  have hl := pT.list
  refine wpAny_pyIter_list hl ?_
  obtain ⟨ol, hol, _⟩ := IsList.get hl
  have ne : td ≠ s.heap.objs.size := ne_size hol
  have u : Upto [] s.heap (s.heap.push { cls := .type "list_iterator", data := .fields #[.ref td, .int 0 0] }) := Upto.push _
  have fI : s.heap.get? s.heap.objs.size = none := get_none_size
  have W := Walks.list (prog := prog) (w := w) hh s.heap.objs.size td ne vs.toArray
  obtain ⟨oL, esL, epL, hoL, hdL⟩ := l.get
  have neLI : env.locals ≠ s.heap.objs.size := ne_of_none hoL fI
  obtain ⟨m, hm⟩ := l.ns
  have hm' : (s.heap.push { cls := .type "list_iterator", data := .fields #[.ref td, .int 0 0] }).Ns env.locals m := by
    obtain ⟨o, es, ep, ho, r⟩ := hm
    exact ⟨o, es, ep, Heap.get?_push_of_some _ ho, r⟩
  obtain ⟨m, hm, hmb⟩ := l
  refine ⟨s.heap.objs.size, [s.heap.objs.size, td], [s.heap.objs.size], vs.toArray.size, _, _, m, rfl, W, ?_, ⟨⟨_, Heap.get?_push_size _ rfl, rfl, rfl⟩, IsList.at hl u (by simp)⟩, ?_, by simpa using neLI, ?_, ?_, ?_⟩
  · rw [List.size_toArray, iT.length, sizeLine_eq]; omega
  · intro b hb
    rw [Heap.size_push]
    rcases List.mem_cons.mp hb with rfl | hb
    · exact Nat.lt_succ_self _
    · rw [List.mem_singleton.mp hb]; exact Nat.lt_succ_of_lt (Heap.lt_size hol)
  · obtain ⟨o, es, ep, ho, r⟩ := hm
    exact ⟨o, es, ep, Heap.get?_push_of_some _ ho, r⟩
  · refine ⟨fun C i v s3 m3 E' hC hP hn hm3 hk ht => ?_, fun C i v s3 m3 E' hC hP hpv hn hm3 hk ht => ?_⟩
    · have c3 : s3.heap.IsCell c (some (.ref ts)) := by
        obtain ⟨o, ho, hd⟩ := hc
        exact ⟨o, hk c o (by simpa using ne_of_none ho fI) (Heap.get?_push_of_some _ ho), hd⟩
      have S3 : ISet w false s3.heap ts Ts := by
        obtain ⟨es, ep, t, ho, O⟩ := hts
        exact ⟨es, ep, t, hk ts _ (by simpa using ne_of_none ho fI) (Heap.get?_push_of_some _ ho), O⟩
      have hv : ∃ n t, v = .int n t := by
        have hv' : vs.toArray[i]? = some v := hP
        rw [List.getElem?_toArray] at hv'
        have := ints_get' iT hv'
        exact this
      obtain ⟨n, t, rfl⟩ := hv
      show wpAny _ _ (forIn [_] true _) _ _ _
      rw [List.forIn_cons]
      simp only [↓reduceIte]
      refine wpAny_bind (wpAny_bind (wpAny_isTrue_Compare1 (wpAny_Name (wpAny_loadName_local (by simp [compEnvC, relabel, hkind]) (lookup_relabel_local hx) hn hm3 ?_) (by decide))))
      refine ldC c3 (in_iset S3 (wpAny_truthy_bool (wpAny_pure (wpAny_pure ⟨rfl, ?_⟩)))) hc2 (by simp [compEnvC, relabel, hkind]) (hk2 C) (by decide)
      exact ⟨s3.heap, _, rfl, fun _ _ e => e⟩
    · refine wpAny_Name (wpAny_loadName_local (by simp [compEnvC, relabel, hkind]) (lookup_relabel_local hx) hn hm3 ?_) (by decide)
      exact ⟨rfl, s3.heap, _, rfl, fun _ _ e => e⟩
  · intro D h' tk ys us hD hDl hDp hlen' hP hF hns hk
    have e : us = vs := by
      refine List.ext_getElem? fun j => ?_
      cases hj : us[j]? with
      | some v => have := hP j v hj; rw [List.getElem?_toArray] at this; exact this.symm
      | none =>
        have := List.getElem?_eq_none_iff.mp hj
        rw [List.size_toArray] at hlen'
        exact (List.getElem?_eq_none_iff.mpr (by omega)).symm
    subst e
    have ey := paired_eq hF
    obtain ⟨n, hDo⟩ := hDp
    refine h h' tk D (fun b o hb e => hk b o (by simpa using hb) (by simpa using ne_of_none e fI) (Heap.get?_push_of_some _ e)) ?_ ⟨us.filter (fun v => decide (cI v ∈ Ts)), ⟨n, ?_⟩, ints_filter iT fun n t => rfl⟩ ⟨_, hns, fun x v e => ?_⟩
    · cases e : s.heap.get? D with
      | none => rfl
      | some o => rw [show (s.heap.push { cls := .type "list_iterator", data := .fields #[.ref td, .int 0 0] }).get? D = some o from Heap.get?_push_of_some _ e] at hD; cases hD
    · rw [hDo]
      rw [ey]
    · rw [List.lookup_cons] at e
      split at e
      · rename_i hxx
        rw [if_pos (by simpa using hxx)]; exact e
      · rename_i hxx
        rw [if_neg (by simpa using hxx)]; exact hmb x v e
end
end Mine
end

section
open PySem PySem.W PySem.Calls PyProof.Rows
set_option Elab.async false
set_option maxRecDepth 100000
namespace Mine

def noHeap : Heap := { objs := #[] }
theorem noHeap_get (b : Addr) : noHeap.get? b = none := Heap.get?_none_of_le (Nat.zero_le _)
/-- the frames below stand as dicts -/
abbrev Frames (h : Heap) (l : List Env) : Prop := h.FunFrames noHeap l
def framesAt (l : List Env) : List Addr := l.filterMap (·.frame)
/-- only what lies beside the data changes at S -/
def SlotsKept (S : List Addr) (h h' : Heap) : Prop := ∀ b, b ∈ S → ∀ o, h.get? b = some o → ∃ sl, h'.get? b = some { o with slots := sl }
theorem SlotsKept.refl (S : List Addr) (h : Heap) : SlotsKept S h h := fun _ _ o e => ⟨o.slots, e⟩
theorem SlotsKept.trans {S : List Addr} {h1 h2 h3 : Heap} (x : SlotsKept S h1 h2) (y : SlotsKept S h2 h3) : SlotsKept S h1 h3 := fun b hb o e =>
  let ⟨_, e1⟩ := x b hb o e; let ⟨sl, e2⟩ := y b hb _ e1; ⟨sl, e2⟩
theorem SlotsKept.of_upto {S xs : List Addr} {h h' : Heap} (u : Upto xs h h') (d : ∀ b, b ∈ S → b ∉ xs) : SlotsKept S h h' := fun b hb o e => ⟨o.slots, u b o (d b hb) e⟩
theorem Loc.slots {h h' : Heap} {L : Addr} {bs : List (Str × Value)} {S : List Addr} (l : Loc h L bs) (k : SlotsKept S h h') (hL : L ∈ S) : Loc h' L bs := by
  obtain ⟨m, ⟨o, es, ep, ho, r⟩, f⟩ := l
  obtain ⟨sl, e⟩ := k L hL o ho
  exact ⟨m, ⟨_, es, ep, e, r⟩, f⟩
theorem Frames.slots {h h' : Heap} : ∀ {l : List Env}, Frames h l → SlotsKept (framesAt l) h h' → Frames h' l
  | [], _, _ => trivial
  | env :: r, ⟨hk, ⟨L, o, hf, hn, ho, hd⟩, hr⟩, k => by
    have hL : L ∈ framesAt (env :: r) := by unfold framesAt; rw [List.filterMap_cons, hf]; exact .head _
    obtain ⟨sl, e⟩ := k L hL o ho
    exact ⟨hk, ⟨L, _, hf, hn, e, hd⟩, Frames.slots hr fun b hb => k b (by unfold framesAt; rw [List.filterMap_cons, hf]; exact .tail _ hb)⟩
theorem Frames.upto {h h' : Heap} {xs : List Addr} {l : List Env} (f : Frames h l) (u : Upto xs h h') (d : ∀ b, b ∈ framesAt l → b ∉ xs) : Frames h' l := f.slots (.of_upto u d)

/-- an exception with the head of its traceback -/
def ExcAt (h : Heap) (e : Addr) (cls : Value) (dct : Option Addr) (T : Addr) (fl : Value) : Prop :=
  ∃ oe vs oT ts, h.get? e = some oe ∧ oe.cls = cls ∧ oe.dict = dct ∧ oe.data = .fields vs ∧ vs[1]? = some (.ref T) ∧ vs[2]? = some .none ∧ T ≠ e ∧ h.get? T = some oT ∧ oT.data = .fields ts ∧ ts[3]? = some fl

section
variable {M : Model} {A : Around} {E : Value → Shared → Prop} {s : Shared}

theorem new_entry {env : Env} {outer : List Env} {L e : Addr} {oe : Obj} {vs : Array Value} {head : Value} {hadNext : Bool} {Q : Unit → Shared → Prop}
    (hfr : A.frames = some (env :: outer)) (hl : Frames s.heap (env :: outer)) (hf : env.frame = some L)
    (he : s.heap.get? e = some oe) (hd : oe.data = .fields vs) (hsz : 1 < vs.size) (h2 : vs[2]? = some .none)
    (h : ∀ h' T, Upto (framesAt (env :: outer) ++ [e]) s.heap h' → SlotsKept (framesAt (env :: outer)) s.heap h' → s.heap.get? T = none → ExcAt h' e oe.cls oe.dict T (rawInt L) → Q () { s with heap := h' }) :
    wpAny M A (do let a ← frameOf env; let pl ← entryPlaceOf L hadNext; let b ← EntryCells.newEntry head a .none (rawInt L) .none pl; setField (.ref e) 1 b) Q E s := by
  have hene : e ∉ (env :: outer).filterMap (·.frame) := fun hm => by
    obtain ⟨_, o, ho, hnf⟩ := hl.mem hm
    rw [he] at ho; injection ho with ho; subst ho; exact hnf vs hd
  refine wpAny_bind (wpAny_frameOf_fun hfr hl hf fun h₁ hs₁ => ?_)
  refine wpAny_bind (wpAny_entryPlaceOf fun pl hpl => ?_)
  unfold EntryCells.newEntry newFields
  refine wpAny_bind (wpAny_newObj_type ?_ (hpl.sizeOk5 _ _ _ _ _))
  have he₁ : h₁.get? e = some oe := (hs₁.2.1 e hene).trans he
  generalize hTO : ({ cls := .type "traceback", dict := none, data := .fields ([head, .ref L, .none, rawInt L, .none] ++ (if pl.isEmpty then List.replicate 6 Value.none else pl)).toArray } : Obj) = TO
  have he₂ := Heap.get?_push_of_some (h := h₁) TO he₁
  refine wpAny_setField he₂ hd hsz ?_
  have hTe : h₁.objs.size ≠ e := Nat.ne_of_gt (Heap.lt_size he₁)
  have hd₃ := Obj.data_mapFields hd (·.setIfInBounds 1 (Value.ref h₁.objs.size))
  have he₃ := Heap.get?_update_self (Obj.mapFields (·.setIfInBounds 1 (Value.ref h₁.objs.size))) he₂ (Obj.isFreed_of_fields hd₃)
  have hT₃ := (Heap.get?_update_other (h₁.push TO) (Obj.mapFields (·.setIfInBounds 1 (Value.ref h₁.objs.size))) (Ne.symm hTe)).trans (Heap.get?_push_size h₁ (by rw [← hTO]; rfl))
  have keep : ∀ b o, b ≠ e → h₁.get? b = some o → ((h₁.push TO).update e (Obj.mapFields (·.setIfInBounds 1 (Value.ref h₁.objs.size)))).get? b = some o := fun b o hbe hb => by
    rw [Heap.get?_update_other _ _ (Ne.symm hbe)]
    exact Heap.get?_push_of_some _ hb
  have hdict : (Obj.mapFields (·.setIfInBounds 1 (Value.ref h₁.objs.size)) oe).dict = oe.dict := by
    obtain ⟨c, dc, dt, sl⟩ := oe
    cases dt <;> rfl
  refine h _ h₁.objs.size (fun b o hb e1 => ?_) (fun b hb o e1 => ?_) (Heap.get?_none_of_le (by rw [hs₁.1]; exact Nat.le_refl _)) ?_
  · have hb1 : b ∉ framesAt (env :: outer) := fun q => hb (List.mem_append_left _ q)
    have hb2 : b ≠ e := fun q => hb (List.mem_append_right _ (by rw [q]; exact .head _))
    exact keep b o hb2 ((hs₁.2.1 b hb1).trans e1)
  · obtain ⟨sl, e2⟩ := hs₁.2.2 b o e1
    exact ⟨sl, keep b _ (fun q => hene (q ▸ hb)) e2⟩
  · refine ⟨_, _, _, _, he₃, Obj.cls_mapFields _ _, hdict, hd₃, by simp [hsz], ?_, hTe, hT₃, by rw [← hTO], ?_⟩
    · rw [Array.getElem?_setIfInBounds_ne (by decide)]; exact h2
    · first | (simp; done) | (rcases hpl with rfl | ⟨_, _, _, _, _, _, _, rfl⟩ <;> simp)

theorem note_first {env : Env} {outer : List Env} {L e : Addr} {oe : Obj} {vs : Array Value} {Q : Unit → Shared → Prop}
    (hfr : A.frames = some (env :: outer)) (hl : Frames s.heap (env :: outer)) (hf : env.frame = some L)
    (he : s.heap.get? e = some oe) (hd : oe.data = .fields vs) (h1 : vs[1]? = some .none) (h2 : vs[2]? = some .none)
    (h : ∀ h' T, Upto (framesAt (env :: outer) ++ [e]) s.heap h' → SlotsKept (framesAt (env :: outer)) s.heap h' → s.heap.get? T = none → ExcAt h' e oe.cls oe.dict T (rawInt L) → Q () { s with heap := h' }) :
    wpAny M A (noteFrame (.ref e) env) Q E s := by
  unfold noteFrame
  simp only [hf]
  refine wpAny_bind (wpAny_field he hd h1 ?_)
  rw [if_neg (by decide)]
  exact new_entry hfr hl hf he hd (Array.getElem?_eq_some_iff.mp h1).1 h2 h

theorem note_next {env : Env} {outer : List Env} {L e T : Addr} {cls : Value} {dct : Option Addr} {Q : Unit → Shared → Prop}
    (hfr : A.frames = some (env :: outer)) (hl : Frames s.heap (env :: outer)) (hf : env.frame = some L) (hx : ExcAt s.heap e cls dct T .none)
    (h : ∀ h' T', Upto (framesAt (env :: outer) ++ [e, T]) s.heap h' → SlotsKept (framesAt (env :: outer)) s.heap h' → s.heap.get? T' = none → ExcAt h' e cls dct T' (rawInt L) → Q () { s with heap := h' }) :
    wpAny M A (noteFrame (.ref e) env) Q E s := by
  obtain ⟨oe, vs, oT, ts, he, rfl, rfl, hd, h1, h2, hTe, hT, hdT, h3⟩ := hx
  unfold noteFrame
  simp only [hf]
  refine wpAny_bind (wpAny_field he hd h1 ?_)
  rw [if_pos (show (Value.ref T != Value.none) = true from by simp)]
  refine wpAny_bind (wpAny_field hT hdT h3 ?_)
  rw [if_neg (show ¬ ((Value.none == rawInt L) = true) from by simp [rawInt])]
  refine wpAny_bind (wpAny_setField hT hdT (Array.getElem?_eq_some_iff.mp h3).1 ?_)
  have other : ∀ b, b ≠ T → (s.heap.update T (Obj.mapFields (·.setIfInBounds 3 Value.none))).get? b = s.heap.get? b := fun b hb => Heap.get?_update_other _ _ (Ne.symm hb)
  have u : Upto [T] s.heap (s.heap.update T (Obj.mapFields (·.setIfInBounds 3 Value.none))) := fun b o hb e => (other b (by simpa using hb)).trans e
  have hTf : ∀ b, b ∈ framesAt (env :: outer) → b ∉ [T] := fun b hb q => by
    obtain ⟨_, o, ho, hnf⟩ := hl.mem hb
    rw [List.mem_singleton.mp q, hT] at ho; injection ho with ho; subst ho; exact hnf ts hdT
  refine new_entry hfr (hl.upto u hTf) hf ((other e (Ne.symm hTe)).trans he) hd (Array.getElem?_eq_some_iff.mp h1).1 h2 fun h' T' u' k' hT' hx' => ?_
  refine h h' T' (fun b o hb e1 => u' b o (fun q => hb ?_) (u b o (fun q => hb ?_) e1)) ((SlotsKept.of_upto u hTf).trans k') ?_ hx'
  · rcases List.mem_append.mp q with q | q
    · exact List.mem_append_left _ q
    · exact List.mem_append_right _ (by rw [List.mem_singleton.mp q]; exact .head _)
  · exact List.mem_append_right _ (.tail _ q)
  · cases e1 : s.heap.get? T' with
    | none => rfl
    | some o =>
      by_cases q : T' = T
      · have hself : (s.heap.update T (Obj.mapFields (·.setIfInBounds 3 Value.none))).get? T = _ := Heap.get?_update_self _ hT (Obj.isFreed_of_fields (Obj.data_mapFields hdT _))
        rw [q, hself] at hT'; cases hT'
      · rw [other T' q, e1] at hT'; cases hT'

theorem note_again {env : Env} {L e T : Addr} {cls : Value} {dct : Option Addr} {Q : Unit → Shared → Prop} (hf : env.frame = some L) (hx : ExcAt s.heap e cls dct T (rawInt L)) (h : Q () s) :
    wpAny M A (noteFrame (.ref e) env) Q E s := by
  obtain ⟨oe, vs, oT, ts, he, _, _, hd, h1, _, hTe, hT, hdT, h3⟩ := hx
  exact wpAny_noteFrame_inFlight hf he hd h1 hT hdT h3 h

theorem set_flight {e T : Addr} {cls fl : Value} {dct : Option Addr} {fr : Option Addr} {Q : Unit → Shared → Prop} (hx : ExcAt s.heap e cls dct T fl)
    (h : ∀ h', Upto [T] s.heap h' → ExcAt h' e cls dct T (fr.elim Value.none fun f => rawInt f) → Q () { s with heap := h' }) : wpAny M A (setFlight (.ref e) fr) Q E s := by
  obtain ⟨oe, vs, oT, ts, he, hc, hdc, hd, h1, h2, hTe, hT, hdT, h3⟩ := hx
  have hsz3 : 3 < ts.size := (Array.getElem?_eq_some_iff.mp h3).1
  unfold setFlight
  refine wpAny_bind (wpAny_field he hd h1 ?_)
  rw [if_pos (show (Value.ref T != Value.none) = true from by simp)]
  have other : ∀ b, b ≠ T → (s.heap.update T (Obj.mapFields (·.setIfInBounds 3 (fr.elim Value.none fun f => rawInt f)))).get? b = s.heap.get? b := fun b hb => Heap.get?_update_other _ _ (Ne.symm hb)
  refine wpAny_setField hT hdT hsz3 (h _ (fun b o hb e => (other b (by simpa using hb)).trans e) ?_)
  exact ⟨oe, vs, _, _, (other e (Ne.symm hTe)).trans he, hc, hdc, hd, h1, h2, hTe, Heap.get?_update_self _ hT (Obj.isFreed_of_fields (Obj.data_mapFields hdT _)), Obj.data_mapFields hdT _, by simp [hsz3]⟩
end

/-- raised since the heap was h0: what stood there stands, but for the slots of S -/
def Flies (S : List Addr) (h0 h : Heap) (e : Addr) (cls : Value) (dct : Option Addr) (fl : Value) : Prop :=
  Upto S h0 h ∧ SlotsKept S h0 h ∧ h0.get? e = none ∧ ∃ T, h0.get? T = none ∧ ExcAt h e cls dct T fl

section
variable {M : Model} {A : Around} {E : Value → Shared → Prop} {s : Shared} {h0 : Heap} {S : List Addr} {e : Addr} {cls : Value} {dct : Option Addr} {fl : Value} {env : Env} {outer : List Env} {L : Addr}

theorem none_back {h h' : Heap} {xs : List Addr} {a : Addr} (u : Upto xs h h') (k : SlotsKept xs h h') (hn : h'.get? a = none) : h.get? a = none := by
  cases e : h.get? a with
  | none => rfl
  | some o =>
    by_cases q : a ∈ xs
    · obtain ⟨sl, e'⟩ := k a q o e
      rw [hn] at e'; cases e'
    · rw [u a o q e] at hn; cases hn

theorem Flies.note {Q : Unit → Shared → Prop} (x : Flies S h0 s.heap e cls dct .none) (hfr : A.frames = some (env :: outer)) (hl : Frames s.heap (env :: outer)) (hf : env.frame = some L) (hS : ∀ b, b ∈ framesAt (env :: outer) → b ∈ S)
    (hSn : ∀ b, b ∈ S → ∃ o, h0.get? b = some o)
    (h : ∀ h', Flies S h0 h' e cls dct (rawInt L) → Frames h' (env :: outer) → Q () { s with heap := h' }) : wpAny M A (noteFrame (.ref e) env) Q E s := by
  obtain ⟨u, k, he, T, hT, hx⟩ := x
  refine note_next hfr hl hf hx fun h' T' u' k' hT' hx' => h h' ⟨fun b o hb e1 => ?_, fun b hb o e1 => ?_, he, T', none_back u k hT', hx'⟩ (hl.slots k')
  · refine u' b o (fun q => ?_) (u b o hb e1)
    rcases List.mem_append.mp q with q | q
    · exact hb (hS b q)
    · rcases List.mem_cons.mp q with rfl | q
      · rw [he] at e1; cases e1
      · rw [List.mem_singleton.mp q, hT] at e1; cases e1
  · obtain ⟨sl, e2⟩ := k b hb o e1
    by_cases q : b ∈ framesAt (env :: outer)
    · obtain ⟨sl', e3⟩ := k' b q _ e2
      exact ⟨sl', e3⟩
    · refine ⟨sl, u' b _ (fun q' => ?_) e2⟩
      rcases List.mem_append.mp q' with q' | q'
      · exact q q'
      · rcases List.mem_cons.mp q' with rfl | q'
        · rw [he] at e1; cases e1
        · rw [List.mem_singleton.mp q', hT] at e1; cases e1

theorem Flies.again {Q : Unit → Shared → Prop} (x : Flies S h0 s.heap e cls dct (rawInt L)) (hf : env.frame = some L) (h : Q () s) : wpAny M A (noteFrame (.ref e) env) Q E s :=
  let ⟨_, _, _, _, _, hx⟩ := x; note_again hf hx h

theorem Flies.flight {fr : Option Addr} {Q : Unit → Shared → Prop} (x : Flies S h0 s.heap e cls dct fl) (hSn : ∀ b, b ∈ S → ∃ o, h0.get? b = some o)
    (h : ∀ h', Flies S h0 h' e cls dct (fr.elim Value.none fun f => rawInt f) → (∃ T, h0.get? T = none ∧ Upto [T] s.heap h') → Q () { s with heap := h' }) : wpAny M A (setFlight (.ref e) fr) Q E s := by
  obtain ⟨u, k, he, T, hT, hx⟩ := x
  refine set_flight hx fun h' u' hx' => h h' ⟨fun b o hb e1 => u' b o (by simpa using ne_of_none e1 hT) (u b o hb e1), fun b hb o e1 => ?_, he, T, hT, hx'⟩ ⟨T, hT, u'⟩
  obtain ⟨sl, e2⟩ := k b hb o e1
  exact ⟨sl, u' b _ (by simpa using ne_of_none e1 hT) e2⟩
end
end Mine
end

section
open PySem PySem.W PySem.Calls PyProof.Rows
set_option Elab.async false
set_option maxRecDepth 100000
namespace Mine
open Builtin Builtin.ObjectAttr

section
variable {prog : Program} {w : World} {A : Around} {E : Value → Shared → Prop} {h : Heap} {g : Array GenState} {d : Drawn} {t : Nat} {os : OsState}
variable {nm q : Str} {C N x : Addr} {bs bm : List Value} {sn : List Str} {sub : List Value} {ab : Bool} {col : Option Bool} {dd : Option Addr} {k0 k1 k2 k3 k5 : Option Value} {B newId sa owner : String}
  {mN : Str → Option Value} {name : Str} {v : Value}

/-- the first attribute of an own object: its dict is laid at the heap's end -/
theorem first_entry {tk : Tok} {o : Obj} {Q : Fin → Shared → Prop} (SF : StoreFacts B bm sa owner)
    (hC : h.get? C = some (excClassObj nm q C N bs bm true sn sub ab col dd k0 k1 k2 k3 k5 newId)) (hn : h.Ns N mN) (hna : mN name = none)
    (hB : typeLookup (.type B) name = pure none) (hx : h.get? x = some o) (hc : o.cls = .ref C) (hnc : ∀ c, o.data ≠ .cls c) (hdn : o.dict = none)
    (hq : ∀ h' tk', h'.Ns1 h.objs.size (fun y => if y = name then some v else none) → h'.get? x = some { o with dict := some h.objs.size } →
      (∀ b o, b ≠ x → h.get? b = some o → h'.get? b = some o) → Q (.done (.ret .none)) ⟨h', g, d, tk', os⟩) :
    wpAny (model prog w) A (Builtin.«object.__setattr__» ⟨[.ref x, .str name tk, v], []⟩) Q E ⟨h, g, d, t, os⟩ := by
  have hpass := SF.passes (.ref x)
  unfold Builtin.«object.__setattr__»
  repeat (first | rw [refuse_eq] | (rw [refuseLoop_ref, hpass]) | (with_reducible refine wpAny_loadPart_at hx ?_; rw [hc]) | with_reducible refine wpAny_mroOf_exc hC ?_ | (with_reducible refine wpAny_typeLookup_exc hC hn SF.mro hB ?_; rw [hna]) | wp_step)
  rw [hdn, if_neg (by simp [typeHasDict])]
  split
  · rename_i hcd
    cases hcd
  split
  · rename_i c hcd
    exact absurd hcd (hnc c)
  · have hx₁ : (h.push { cls := .type "dict", data := .dict #[] }).get? x = some o := Heap.get?_push_of_some _ hx
    have hxs : x ≠ h.objs.size := Nat.ne_of_lt (Heap.lt_size hx)
    refine wpAny_bind (wpAny_alloc' ?_)
    refine wpAny_bind (wpAny_update' hx₁ ?_)
    refine wpAny_pure ?_
    have hgd : ((h.push { cls := .type "dict", data := .dict #[] }).update x fun o => { cls := o.cls, dict := some h.objs.size, data := o.data, slots := o.slots }).get? h.objs.size
        = some { cls := .type "dict", data := .dict #[] } :=
      (Heap.get?_update_ne _ _ _ _ hxs.symm).trans (Heap.get?_push_at rfl rfl)
    have hnd : ((h.push { cls := .type "dict", data := .dict #[] }).update x fun o => { cls := o.cls, dict := some h.objs.size, data := o.data, slots := o.slots }).Ns h.objs.size (fun _ => none) :=
      ⟨_, #[], _, hgd, rfl, fun e he => absurd he (by simp), fun _ => rfl⟩
    show wpAny _ _ (storeInDict h.objs.size (.str name tk) name v) _ _ _
    unfold storeInDict newKeyGuard
    refine wpAny_bind (wpAny_pure (wpAny_bind (wpAny_nsSet1 (Heap.Ns1.of_empty hnd) fun h' hn' hs => ?_)))
    obtain ⟨oD, esD, epD, hoD, hdD, hcD⟩ := hn'.count (Within.cons name v Within.nil)
    refine wpAny_bind (wpAny_lookBehind hoD (by rw [hdD]; exact pastItsLine_dict (Nat.le_trans hcD (by rw [List.length_cons, List.length_nil, sizeLine_eq]; omega))) ?_)
    wp_walk
    have hx' : h'.get? x = some { cls := o.cls, dict := some h.objs.size, data := o.data, slots := o.slots } := ?_
    refine hq h' _ ?_ hx' (fun b ob hbx hb => ?_)
    · obtain ⟨o', es, ep, e1, e2, e3, eu, e4⟩ := hn'
      exact ⟨o', es, ep, e1, e2, e3, eu, fun y => by rw [e4 y]⟩
    · exact (hs.2 b (Nat.ne_of_lt (Heap.lt_size hb))).trans ((Heap.get?_update_ne _ _ _ _ hbx).trans (Heap.get?_push_of_some _ hb))
    · refine (hs.2 x hxs).trans (Heap.get?_update_self _ hx₁ ?_)
      have hfr := (Heap.get?_some_iff.mp hx).2
      obtain ⟨oc, od, odt, osl⟩ := o
      cases odt <;> first | rfl | exact hfr

theorem store_first {o : Obj} {Q : Unit → Shared → Prop} (SF : StoreFacts B bm sa owner)
    (hC : h.get? C = some (excClassObj nm q C N bs bm true sn sub ab col dd k0 k1 k2 k3 k5 newId)) (hn : h.Ns N mN) (hns : mN "__setattr__" = none) (hna : mN name = none)
    (hB : typeLookup (.type B) name = pure none) (hx : h.get? x = some o) (hc : o.cls = .ref C) (hnc : ∀ c, o.data ≠ .cls c) (hdn : o.dict = none)
    (hq : ∀ h' tk', h'.Ns1 h.objs.size (fun y => if y = name then some v else none) → h'.get? x = some { o with dict := some h.objs.size } →
      (∀ b o, b ≠ x → h.get? b = some o → h'.get? b = some o) → Q () ⟨h', g, d, tk', os⟩) :
    wpAny (model prog w) A (setAttr (.ref x) name v) Q E ⟨h, g, d, t, os⟩ := by
  have f3 := SF.slot.bind (.ref x)
  unfold setAttr callSpecial? specialOf
  repeat (any_goals (first | assumption | (with_reducible refine wpAny_loadPart_at hx ?_; rw [hc]) | (with_reducible refine wpAny_typeLookup_exc hC hn SF.mro SF.slot.lookup ?_; rw [hns]) | wp_step))
  refine codeAny_call_builtin SF.slot.plain SF.entry (wpAny_check_sa SF hC hx hc (first_entry SF hC hn hna hB hx hc hnc hdn fun h' tk' a b c => ?_))
  repeat (any_goals (first | assumption | wp_step))
  exact hq h' tk' a b c
end

section
variable {prog : Program} {w : World} {A : Around} {E : Value → Shared → Prop} {R : Result → Shared → Prop} {s : Shared} {env : Env}

/-- the program's own exception class -/
theorem cde_class {h : Heap} (B : Base (KK w) h) : ∃ nm q bs sn sub ab col dd k0 k1 k2 k3 k5, h.get? 49 = some (excClassObj nm q 49 48 bs [.type "Exception", .type "BaseException", .type "object"] true sn sub ab col dd k0 k1 k2 k3 k5 "Exception.__new__") :=
  ⟨_, _, _, _, _, _, _, _, _, _, _, _, _, B.1 49 _ rfl⟩
end
end Mine
end

section
open PySem PySem.W PySem.Calls PyProof.Rows
set_option Elab.async false
set_option maxRecDepth 100000
namespace Mine

section
variable {w : World} {h : Heap}
theorem cde_ns (B : Base (KK w) h) : h.Ns 48 (h.nsMap 48) := .of_isNs (isNs_of_in B.1 (by kernel_rfl))
theorem cde_none (B : Base (KK w) h) {x : Str} (q : nsIn (KK w) 48 x = some none) : h.nsMap 48 x = none := nsMap_none_of_in B.1 (by kernel_rfl) q
theorem ns_some_of {K : Frag} {h : Heap} {N : Addr} {mg : Str → Option Value} {n : Str} {v : Value} (X : K.In h) (G : h.Ns N mg) (e : nsIn K N n = some (some v)) : mg n = some v := by
  obtain ⟨o, es, ep, ho, hd, _, hf⟩ := G
  unfold nsIn at e
  split at e
  · rename_i q
    have := X _ _ q
    rw [ho] at this
    cases this
    cases hd
    split at e
    · rename_i he
      cases e
      rw [← hf]
      unfold nsFind findBy
      rw [← Array.find?_toList, he]
      rfl
    · split at e <;> cases e
  · cases e
theorem cde_init (B : Base (KK w) h) : h.nsMap 48 (Str.ofString "__init__") = some (.ref 46) := ns_some_of B.1 (cde_ns B) (by kernel_rfl)
end
theorem noex_cycles : typeLookup (.type "Exception") (Str.ofString "cycles") = pure none := by rw [typeLookup_type, builtinLookup_eq_fast]; kernel_rfl
theorem noex_edges : typeLookup (.type "Exception") (Str.ofString "edges") = pure none := by rw [typeLookup_type, builtinLookup_eq_fast]; kernel_rfl

section
variable {prog : Program} {w : World} {A : Around} {E : Value → Shared → Prop} {R : Result → Shared → Prop} {s : Shared} {env : Env}

theorem assignAttr {o : Expr} {a : Str} {pos : Pos} {v : Value} {Q : Unit → Shared → Prop} (h : wpAny (model prog w) A (eval o env) (fun ov s1 => wpAny (model prog w) A (setAttr ov a v) Q E s1) E s) :
    wpAny (model prog w) A (assign (.Attribute o a pos) env v) Q E s := by
  rw [assign_Attribute]
  refine wpAny_bind (wpAny_holding (wpAny_mono h (fun ov s1 h1 => wpAny_bind (wpAny_standAt (wpAny_bind (wpAny_holding (wpAny_mono h1 (fun _ s2 h2 => ?_) fun _ _ e => e))))) fun _ _ e => e))
  exact wpAny_release h2

theorem cde_init_call {hb : Heap} {e t cy ed : Addr} {msg : Value} (B0 : Base (KK w) hb) (u0 : Upto [] hb s.heap) (fe : hb.get? e = none) (hh : A.handled = none) (hroom : A.depth < recursionLimit)
    (he : s.heap.get? e = some { cls := .ref 49, data := .fields #[.ref t, .none, .none, .none, .bool false, .none] })
    (h : ∀ h' tk D, Upto [e] s.heap h' → s.heap.get? D = none → h'.Ns1 D (fun y => if y = Str.ofString "edges" then some (.ref ed) else if y = Str.ofString "cycles" then some (.ref cy) else none) →
      h'.get? e = some { cls := .ref 49, dict := some D, data := .fields #[.ref t, .none, .none, .none, .bool false, .none] } → R (.ok (.ret .none)) { s with heap := h', toks := tk }) :
    codeAny (model prog w) A (.call (.ref 46) ⟨[.ref e, msg, .ref cy, .ref ed], []⟩) R s := by
  have B : Base (KK w) s.heap := B0.keeps fun b o e => u0 b o (by simp) e
  refine call_fn B (a := 46) (o := _) rfl rfl (by kernel_rfl) hroom rfl (binds := [(Str.ofString "self", .ref e), (Str.ofString "message", msg), (Str.ofString "cycles", .ref cy), (Str.ofString "edges", .ref ed)]) (by rfl) rfl (fun n => by rfl) ?_
  intro h1 tk U1 hns c1 c2
  clear c1 c2
  have l1 : Loc h1 s.heap.objs.size [(Str.ofString "self", .ref e), (Str.ofString "cycles", .ref cy), (Str.ofString "edges", .ref ed)] :=
    Loc.of hns (List.forall_mem_cons.mpr ⟨rfl, List.forall_mem_cons.mpr ⟨rfl, List.forall_mem_cons.mpr ⟨rfl, fun _ h => nomatch h⟩⟩⟩)
  clear hns
  generalize hA : A.deeper _ = A'
  have hh' : A'.handled = none := by rw [← hA]; exact hh
  clear hA
  generalize hL : s.heap.objs.size = L at l1 ⊢
  have fL : s.heap.get? L = none := by rw [← hL]; exact get_none_size
  have neLe : e ≠ L := ne_of_none he fL
  have B1 : Base (KK w) h1 := B.keeps fun b o e => U1 b o (by simp) e
  have he1 := U1.at he (by simp)
  refine wpAny_execs_cons (wpAny_Assign_stores (tuple2 (ldL l1 rfl (ldL l1 rfl ?_))) rfl rfl)
  show wpAny _ _ (assign (.Tuple _ 0 _) _ _) _ _ _
  refine wpAny_assign_Tuple hh' (items := #[.ref cy, .ref ed]) ⟨_, Heap.get?_push_size _ rfl, rfl, _, rfl⟩ rfl rfl fun h2 x2 => ?_
  have u2 : Upto [] h1 h2 := fun b o _ e => x2 b o (ne_size (Heap.get?_push_of_some _ e)) (Heap.get?_push_of_some _ e)
  show wpAny _ _ (assignInOrder [assign (.Attribute _ _ _) _, assign (.Attribute _ _ _) _] [.ref cy, .ref ed]) _ _ _
  have l2 := l1.at u2 (by simp)
  have B2 : Base (KK w) h2 := B1.keeps fun b o e => u2 b o (by simp) e
  have he2 := u2.at he1 (by simp)
  obtain ⟨nm, q, bs, sn, sub, ab, col, dd, k0, k1, k2, k3, k5, hC2⟩ := cde_class B2
  unfold assignInOrder
  refine wpAny_bind (wpAny_holding (assignAttr (ldL l2 rfl (store_first F.store_Exception hC2 (cde_ns B2) (cde_none B2 (by kernel_rfl)) (cde_none B2 (by kernel_rfl)) noex_cycles he2 rfl (fun c e => nomatch e) rfl fun h3 tk3 n3 he3 k3' => ?_))))
  dsimp only at n3 he3 ⊢
  have u3 : Upto [e] h2 h3 := fun b o hb => k3' b o (by simpa using hb)
  have fD : h2.get? h2.objs.size = none := get_none_size
  generalize h2.objs.size = D at n3 he3 fD
  have l3 := l2.at u3 (by simpa using neLe.symm)
  have u13 : Upto [e] h1 h3 := (u2.mono (by simp)).trans u3
  have B3 : Base (KK w) h3 := B0.keeps fun b o q => u13 b o (by simpa using ne_of_none q fe) (U1 b o (by simp) (u0 b o (by simp) q))
  obtain ⟨nm', q', bs', sn', sub', ab', col', dd', k0', k1', k2', k3'', k5', hC3⟩ := cde_class B3
  have neD : D ≠ e := (ne_of_none he2 fD).symm
  unfold assignInOrder
  have I3 : h3.Inst e 49 (fun y => if y = Str.ofString "cycles" then some (.ref cy) else none) := ⟨_, he3, rfl, fun c q => (nomatch q), .inr ⟨D, rfl, neD, n3⟩⟩
  refine wpAny_bind (wpAny_holding (assignAttr (ldL l3 rfl (store_attr (ns := [Str.ofString "cycles"]) F.store_Exception hC3 (cde_ns B3) (cde_none B3 (by kernel_rfl)) (cde_none B3 (by kernel_rfl)) noex_edges (ne_of_none (B0.1 49 _ rfl) fe).symm I3 (fun h4 tk4 I4 k4 same4 => ?_) (Within.cons _ _ Within.nil) (by rw [sizeLine_eq]; exact Nat.le_of_ble_eq_true rfl)))))
  unfold assignInOrder
  obtain ⟨o4, he4, hc4, hd4, hs4, hdx4⟩ := same4 _ he3
  have hdD : o4.dict = some D := hdx4 D rfl
  obtain ⟨o4', he4', _, _, hI⟩ := I4
  rw [he4] at he4'
  cases he4'
  rcases hI with ⟨q, _⟩ | ⟨D', hD', _, n4⟩
  · rw [hdD] at q; cases q
  rw [hdD] at hD'
  cases hD'
  refine wpAny_pure (wpAny_execs_nil (h h4 _ D ?_ ?_ n4 ?_))
  · intro b o hb e1
    have e3 := u13 b o hb (U1 b o (by simp) e1)
    refine k4 b o (by simpa using hb) (fun o0 dx q1 q2 => ?_) e3
    rw [he3] at q1; cases q1; cases q2
    exact ne_of_none (u2.at (U1 b o (by simp) e1) (by simp)) fD
  · cases q : s.heap.get? D with
    | none => rfl
    | some o => rw [u2.at (U1 D o (by simp) q) (by simp)] at fD; cases fD
  · rw [he4]
    obtain ⟨c, dc, dt, sl⟩ := o4
    simp only at hc4 hd4 hs4 hdD
    rw [hc4, hd4, hs4, hdD]
end
end Mine
end

section
open PySem PySem.W PySem.Calls PyProof.Rows
set_option Elab.async false
set_option maxRecDepth 100000
namespace Mine

section
variable {M : Model} {A : Around} {E : Value → Shared → Prop} {env : Env}
variable {nm q : Str} {C N : Addr} {bs bm : List Value} {hdct : Bool} {sn : List Str} {sub : List Value} {ab : Bool} {col : Option Bool} {dd : Option Addr} {k0 k1 k2 k3 k5 : Option Value} {newId : String}
theorem raise_with_dict {s : Shared} {x : Sem Value} {Q : Flow → Shared → Prop} (hbase : bm.contains (.type "BaseException") = true) (hh : A.handled = none)
    (h : wpAny M A x (fun v s₁ => ∃ e t dct, v = .ref e ∧ s₁.heap.get? C = some (excClassObj nm q C N bs bm hdct sn sub ab col dd k0 k1 k2 k3 k5 newId) ∧
      s₁.heap.get? e = some { cls := .ref C, dict := dct, data := .fields #[.ref t, .none, .none, .none, .bool false, .none] } ∧ E (.ref e) s₁) E s) :
    wpAny M A (raiseStmt env (some x) none) Q E s := by
  have hcB : (Value.ref C :: bm).contains (.type "BaseException") = true := by rw [List.contains_cons, hbase, Bool.or_true]
  unfold raiseStmt
  refine wpAny_bind (wpAny_mono h (fun v s₁ h₁ => ?_) fun _ _ x => x)
  obtain ⟨e, t, dct, rfl, hC, he, hE⟩ := h₁
  obtain ⟨hp, g, d, tk, os⟩ := s₁
  repeat (first | with_reducible refine wpAny_loadPart_at he ?_ | with_reducible refine wpAny_loadPart_at hC ?_ | (with_reducible refine wpAny_isSubtype_exc hC ?_; rw [hcB]) | wp_step)
  exact wpAny_raiseNew_none hh hE
end

/-- just made by the class, in the heap that was h0 -/
def CdeNew (h0 h : Heap) (e cy ed D : Addr) : Prop :=
  ∃ t, h.get? e = some { cls := .ref 49, dict := some D, data := .fields #[.ref t, .none, .none, .none, .bool false, .none] } ∧ h0.get? e = none ∧ h0.get? D = none ∧ D ≠ e ∧
    h.Ns1 D (fun y => if y = Str.ofString "edges" then some (.ref ed) else if y = Str.ofString "cycles" then some (.ref cy) else none)

section
variable {prog : Program} {w : World} {A : Around} {E : Value → Shared → Prop} {R : Result → Shared → Prop} {s : Shared} {env : Env}

theorem type_call_weight {r : List Value} {k} : Code.weight (.builtin "type.__call__" ⟨.ref 49 :: r, k⟩) = 1 := by kernel_rfl
theorem cde_one : ∃ nm q bs sn sub ab col dd k0 k1 k2 k3 k5, ∀ h, Base (KK w) h → h.get? 49 = some (excClassObj nm q 49 48 bs [.type "Exception", .type "BaseException", .type "object"] true sn sub ab col dd k0 k1 k2 k3 k5 "Exception.__new__") :=
  ⟨_, _, _, _, _, _, _, _, _, _, _, _, _, fun _ B => B.1 49 _ rfl⟩

theorem raise_cde {x : Str} {np cpos pos : Pos} {a1 a2 a3 : Expr} {Q : Flow → Shared → Prop} (hh : A.handled = none) (hroom : A.depth + 2 < recursionLimit)
    (h : wpAny (model prog w) A (eval (.Name x np) env) (fun f s0 => f = .ref 49 ∧ wpAny (model prog w) A (eval a1 env) (fun v1 s1 => wpAny (model prog w) A (eval a2 env) (fun v2 s2 => wpAny (model prog w) A (eval a3 env) (fun v3 s3 =>
      ∃ cy ed, v2 = .ref cy ∧ v3 = .ref ed ∧ Base (KK w) s3.heap ∧ ∀ h' tk e D, Upto [] s3.heap h' → CdeNew s3.heap h' e cy ed D → E (.ref e) { s3 with heap := h', toks := tk }) E s2) E s1) E s0) E s)
    (hs : starEach [a1, a2, a3] env = [(false, eval a1 env), (false, eval a2 env), (false, eval a3 env)] := by rfl) :
    wpAny (model prog w) A (exec (.Raise (some (.Call (.Name x np) [a1, a2, a3] [] cpos)) none pos) env) Q E s := by
  obtain ⟨nm, q, bs, sn, sub, ab, col, dd, k0, k1, k2, k3, k5, hcls⟩ := cde_one (w := w)
  rw [arm_exec_Raise]
  have key : wpAny (model prog w) A (eval (.Call (.Name x np) [a1, a2, a3] [] cpos) env) (fun v s1 => ∃ e t dct, v = .ref e ∧ s1.heap.get? 49 = some (excClassObj nm q 49 48 bs [.type "Exception", .type "BaseException", .type "object"] true sn sub ab col dd k0 k1 k2 k3 k5 "Exception.__new__") ∧
      s1.heap.get? e = some { cls := .ref 49, dict := dct, data := .fields #[.ref t, .none, .none, .none, .bool false, .none] } ∧ E (.ref e) s1) E s := by
    refine wpAny_Call_ofName (wpAny_mono h (fun f s0 h0 => ?_) fun _ _ e => e)
    obtain ⟨rfl, h1⟩ := h0
    unfold callWith
    refine wpAny_bind (wpAny_holding ?_)
    rw [hs]
    refine evalArgs_plain (spliced_cons (wpAny_mono h1 (fun v1 s1 h2 => spliced_cons (wpAny_mono h2 (fun v2 s2 h3 => spliced_cons (wpAny_mono h3 (fun v3 s3 h4 => spliced_nil ?_) fun _ _ e => e)) fun _ _ e => e)) fun _ _ e => e))
    obtain ⟨cy, ed, rfl, rfl, B, hE⟩ := h4
    refine wpAny_bind (wpAny_standAt ?_)
    have hC := hcls _ B
    obtain ⟨hp, g, d, tk, os⟩ := s3
    refine wpAny_bind (wpAny_keeperOf_exc hC ?_)
    refine wpAny_bind (wpAny_call_exc_init (fI := 46) F.excBase_Exception hC (cde_ns B) (cde_init B) (B.1 46 _ rfl) rfl fun h' e hm => ?_)
    obtain ⟨t, he, htn, ht⟩ := hm.there
    have u : Upto [] hp h' := fun b o _ e => hm.keeps b o e
    refine wpAny_call (cde_init_call (s := ⟨h', g, d, tk, os⟩) (t := t) (hb := hp) B u hm.new ?_ ?_ he fun h2 tk2 D u2 fD n2 he2 => ⟨rfl, wpAny_bind (wpAny_holding (wpAny_point (wpAny_pure ?_)))⟩)
    · exact hh
    · show A.depth + Code.weight (.builtin "type.__call__" ⟨.ref 49 :: [v1, .ref cy, .ref ed], []⟩) < recursionLimit
      rw [type_call_weight]
      omega
    have u02 : Upto [] hp h2 := fun b o hb e1 => u2 b o (by simpa using ne_of_none e1 hm.new) (u b o hb e1)
    refine ⟨e, t, some D, rfl, u02.at hC (by simp), he2, hE h2 tk2 e D u02 ⟨t, he2, hm.new, none_of u fD, (ne_of_none he fD).symm, n2⟩⟩
  refine wpAny_bind (wpAny_standAt ?_)
  simp only [evalOpt, Option.map]
  refine raise_with_dict (by decide +kernel) hh (wpAny_bind (wpAny_mono key (fun v s1 h1 => wpAny_bind (wpAny_standAt (wpAny_pure h1))) fun _ _ e => e))
end
end Mine
end

section
open PySem PySem.W PySem.Calls PyProof.Rows
set_option Elab.async false
set_option maxRecDepth 100000
namespace Mine

def Seqish (o : Obj) : Prop := (∃ vs n, o.data = .seq vs n) ∨ (∃ vs, o.data = .fields vs)
/-- a stretch of the generator: what stood before the call stands, and lists, tuples and records too -/
def FrG (hc : Heap) (S : List Addr) (h h' : Heap) : Prop :=
  (∀ b o, b ∉ S → h.get? b = some o → (hc.get? b ≠ none ∨ Seqish o) → h'.get? b = some o) ∧ SlotsKept S h h'
theorem FrG.refl (hc h : Heap) (S : List Addr) : FrG hc S h h := ⟨fun _ _ _ e _ => e, .refl _ _⟩
theorem FrG.write {hc h0 h h' : Heap} {xs : List Addr} (f : FrG hc [] h0 h) (u : Upto xs h h') (k : ∀ b, b ∈ xs → h0.get? b = none ∨ (hc.get? b = none ∧ ∀ o, h.get? b = some o → ¬ Seqish o)) : FrG hc [] h0 h' := by
  refine ⟨fun b o _ e q => ?_, fun b hb => absurd hb List.not_mem_nil⟩
  have e1 := f.1 b o (by simp) e q
  refine u b o (fun hb => ?_) e1
  rcases k b hb with z | ⟨z1, z2⟩
  · rw [z] at e; cases e
  · rcases q with q | q
    · exact q z1
    · exact z2 o e1 q
/-- what whoever drives the generator leaves alone -/
def GKeep (hc h h' : Heap) : Prop := ∀ b o, hc.get? b = none → h.get? b = some o → h'.get? b = some o
structure Resum (w : World) (hc : Heap) (X Z : Addr) (ps : List (Int × Int)) (T0 : List Int) (outer : List Env) (h h' : Heap) : Prop where
  keep : GKeep hc h h'
  src : Src w h' X ps
  items : IL h' Z T0
  base : Base (KK w) h'
  frames : Frames h' outer
  old : ∀ b, h'.get? b = none → hc.get? b = none

def GY (w : World) (hc : Heap) (X Z : Addr) (ps : List (Int × Int)) (T0 : List Int) (outer : List Env) : Protocol := fun m s0 v s' k =>
  ∃ out h' tk, v = .ref out ∧ s' = { s0 with heap := h', toks := tk } ∧ FrG hc [] s0.heap h' ∧ IL h' out (ready ps (todoAt ps T0 (T0.length - (m + 1)))) ∧ ready ps (todoAt ps T0 (T0.length - (m + 1))) ≠ [] ∧ m + 1 ≤ T0.length ∧
    s0.heap.get? out = none ∧ hc.get? out = none ∧ ∀ s'', Resum w hc X Z ps T0 outer h' s''.heap → k (.send .none) s''

/-- the refusal -/
structure Refusal (w : World) (h0 h' : Heap) (ps : List (Int × Int)) (e : Addr) : Prop where
  new : h0.get? e = none
  there : ∃ D cy ed O l, h0.get? D = none ∧ D ≠ e ∧ (∃ T, h0.get? T = none ∧ T ≠ D ∧ ExcAt h' e (.ref 49) (some D) T .none) ∧
    h'.Ns1 D (fun y => if y = Str.ofString "edges" then some (.ref ed) else if y = Str.ofString "cycles" then some (.ref cy) else none) ∧
    h0.get? cy = none ∧ h0.get? ed = none ∧ ISet w true h' cy O ∧ (∀ x, x ∈ O ↔ Path (fOf ps) x x) ∧ PSet w (fun a => h0.get? a = none) h' ed l ∧ (∀ p, p ∈ l ↔ p ∈ ps)

def GR (w : World) (hc : Heap) (ps : List (Int × Int)) (T0 : List Int) (outer : List Env) : GenEnd := fun n s0 r s' =>
  (todoAt ps T0 (T0.length - n) = [] ∧ r = .ok (.ret .none) ∧ ∃ h' tk, s' = { s0 with heap := h', toks := tk } ∧ FrG hc [] s0.heap h') ∨
  (todoAt ps T0 (T0.length - n) ≠ [] ∧ ready ps (todoAt ps T0 (T0.length - n)) = [] ∧ ∃ e h' tk, r = .error (.ref e) ∧ s' = { s0 with heap := h', toks := tk } ∧ FrG hc (framesAt outer) s0.heap h' ∧ Refusal w s0.heap h' ps e)

theorem seg_while_ind {M : Model} {A : Around} {R : GenEnd} {Y : Protocol} {c : Code} {fs : List Frame} (Inv : Nat → Shared → Shared → Prop)
    (step : ∀ n s0 s, (∀ m s', m < n → Inv m s' s' → Seg M A R Y m s' c (M.den c) fs s') → Inv n s0 s → Seg M A R Y n s0 c (M.den c) fs s) :
    ∀ n s0 s, Inv n s0 s → Seg M A R Y n s0 c (M.den c) fs s := by
  intro n
  induction n using Nat.strongRecOn with
  | ind n ih => exact fun s0 s hI => step n s0 s (fun m s' hm hI' => ih m hm s' s' hI') hI

/-- the generator at the head of its loop -/
structure GInv (w : World) (hc h : Heap) (X Z L c : Addr) (ps : List (Int × Int)) (T0 T : List Int) (outer : List Env) : Prop where
  src : Src w h X ps
  items : IL h Z T0
  base : Base (KK w) h
  frames : Frames h outer
  old : ∀ b, h.get? b = none → hc.get? b = none
  nL : hc.get? L = none
  nc : hc.get? c = none
  body : ∃ td ts d Ts m f, Loc h L [(Str.ofString "todo", .ref td), (Str.ofString "edges", .ref d), (Str.ofString "tuples", .ref X), (Str.ofString "allitems", .ref Z)] ∧
    h.IsCell c (some (.ref ts)) ∧ IL h td T ∧ ISet w false h ts Ts ∧ (∀ x, x ∈ Ts ↔ x ∈ T) ∧ Tb w h d ddN ddS m f ∧ (∀ k x, x ∈ f k ↔ (x, k) ∈ ps) ∧
    hc.get? td = none ∧ hc.get? ts = none ∧ hc.get? d = none ∧ (∀ p, p ∈ m → hc.get? p.2 = none ∧ p.2 ≠ ts) ∧ d ≠ L

theorem GInv.resume {w : World} {hc h h' : Heap} {X Z L c : Addr} {ps : List (Int × Int)} {T0 T : List Int} {outer : List Env} (g : GInv w hc h X Z L c ps T0 T outer) (r : Resum w hc X Z ps T0 outer h h') : GInv w hc h' X Z L c ps T0 T outer := by
  obtain ⟨td, ts, d, Ts, m, f, l, hce, hT, hS, hTs, hTb, hf, n1, n2, n3, n4, n5⟩ := g.body
  have u : ∀ {b : Addr} {o : Obj}, hc.get? b = none → h.get? b = some o → h'.get? b = some o := fun hb e => r.keep _ _ hb e
  refine ⟨r.src, r.items, r.base, r.frames, r.old, g.nL, g.nc, td, ts, d, Ts, m, f, ?_, ?_, ?_, ?_, hTs, ?_, hf, n1, n2, n3, n4, n5⟩
  · obtain ⟨mm, ⟨o, es, ep, ho, rr⟩, ff⟩ := l
    exact ⟨mm, ⟨o, es, ep, u g.nL ho, rr⟩, ff⟩
  · obtain ⟨o, ho, hd⟩ := hce
    exact ⟨o, u g.nc ho, hd⟩
  · obtain ⟨vs, ⟨n, p⟩, i⟩ := hT
    exact ⟨vs, ⟨n, u n1 p⟩, i⟩
  · obtain ⟨es, ep, t, ho, O⟩ := hS
    exact ⟨es, ep, t, u n2 ho, O⟩
  · refine { hTb with dt := ?_, set := fun p hp => ?_ }
    · obtain ⟨ep, es, ho, rr⟩ := hTb.dt
      exact ⟨ep, es, u n3 ho, rr⟩
    · obtain ⟨es, ep, t, ho, O⟩ := hTb.set p hp
      exact ⟨es, ep, t, u (n4 p hp).1 ho, O⟩
end Mine
end

section
open PySem PySem.W PySem.Calls PyProof.Rows
set_option Elab.async false
set_option maxRecDepth 100000
namespace Mine

/-- the program's start stands, where only what came later is written -/
theorem Base.move {K : Frag} {hb h h' : Heap} {xs : List Addr} (b : Base K hb) (b' : Base K h) (u : Upto xs h h') (hx : ∀ a, a ∈ xs → hb.get? a = none) : Base K h' := by
  obtain ⟨I, p, l, mg, mb, T⟩ := b
  obtain ⟨I', p', l', mg', mb', T'⟩ := b'
  have ns : ∀ {a m m'}, hb.Ns a m → h.Ns a m' → h'.Ns a m' := by
    rintro a m m' ⟨o, _, _, ho, _⟩ ⟨o', es, ep, ho', r⟩
    exact ⟨o', es, ep, u a o' (fun q => by rw [hx a q] at ho; cases ho) ho', r⟩
  refine ⟨fun a o e => u a o (fun q => ?_) (I' a o e), p', l', mg', mb', ns T.g T'.g, ns T.b T'.b, ?_, T'.builtins, T'.free⟩
  · have := I a o e
    rw [hx a q] at this; cases this
  · obtain ⟨m, n, _⟩ := T.nolimit
    obtain ⟨m', n', q⟩ := T'.nolimit
    exact ⟨m', ns n n', q⟩

theorem Flies.field1 {M : Model} {A : Around} {E : Value → Shared → Prop} {s : Shared} {h0 : Heap} {S : List Addr} {e : Addr} {cls fl : Value} {dct : Option Addr} {Q : Value → Shared → Prop} (x : Flies S h0 s.heap e cls dct fl)
    (h : ∀ T, Q (.ref T) s) : wpAny M A (field (.ref e) 1) Q E s := by
  obtain ⟨_, _, _, T, _, oe, vs, _, _, he, _, _, hd, h1, _⟩ := x
  exact wpAny_field he hd h1 (h T)
theorem Flies.back {M : Model} {A : Around} {E : Value → Shared → Prop} {s : Shared} {h0 : Heap} {S : List Addr} {e : Addr} {cls fl : Value} {dct : Option Addr} {env : Env} (x : Flies S h0 s.heap e cls dct fl) (hSn : ∀ b, b ∈ S → ∃ o, h0.get? b = some o)
    (h : ∀ h', Flies S h0 h' e cls dct (env.frame.elim Value.none fun f => rawInt f) → (∃ T, h0.get? T = none ∧ Upto [T] s.heap h') → E (.ref e) { s with heap := h' }) : cameBackBy M A env E (.ref e) s := by
  unfold cameBackBy
  refine wpAny_bind (x.field1 fun T => ?_)
  rw [if_neg (show ¬ ((Value.ref T == Value.none) = true) from by simp)]
  exact x.flight hSn fun h' a b => h h' a b

/-- what is no record stays through a flight -/
def KeepNF (h h' : Heap) : Prop := ∀ b o, h.get? b = some o → (∀ vs, o.data ≠ .fields vs) → h'.get? b = some o
theorem KeepNF.trans {h1 h2 h3 : Heap} (x : KeepNF h1 h2) (y : KeepNF h2 h3) : KeepNF h1 h3 := fun b o e q => y b o (x b o e q) q
theorem Flies.flight' {M : Model} {A : Around} {E : Value → Shared → Prop} {s : Shared} {h0 : Heap} {S : List Addr} {e : Addr} {cls fl : Value} {dct : Option Addr} {fr : Option Addr} {Q : Unit → Shared → Prop} (x : Flies S h0 s.heap e cls dct fl)
    (h : ∀ h', Flies S h0 h' e cls dct (fr.elim Value.none fun f => rawInt f) → KeepNF s.heap h' → Q () { s with heap := h' }) : wpAny M A (setFlight (.ref e) fr) Q E s := by
  obtain ⟨u, k, he, T, hT, hx⟩ := x
  refine set_flight hx fun h' u' hx' => h h' ⟨fun b o hb e1 => u' b o (by simpa using ne_of_none e1 hT) (u b o hb e1), fun b hb o e1 => ?_, he, T, hT, hx'⟩ fun b o e1 q => u' b o ?_ e1
  · obtain ⟨sl, e2⟩ := k b hb o e1
    exact ⟨sl, u' b _ (by simpa using ne_of_none e1 hT) e2⟩
  · obtain ⟨_, _, oT, ts, _, _, _, _, _, _, _, hT', hd, _⟩ := hx
    rw [List.mem_singleton]
    rintro rfl
    rw [hT'] at e1; cases e1
    exact q _ hd

theorem ne_of_lists {w : World} {h : Heap} {c : Bool} {ts td : Addr} {Ts T : List Int} (S : ISet w c h ts Ts) (L : IL h td T) : td ≠ ts := by
  obtain ⟨o, ho, hc⟩ := S.get
  obtain ⟨o', ho', hc'⟩ := L.get
  exact cls_ne ho' ho (by rw [hc, hc']; decide)

section
variable {prog : Program} {w : World} {A : Around} {E : Value → Shared → Prop} {R : Result → Shared → Prop} {s : Shared}

/-- list(x), x a list of ints -/
theorem call_list_il {a : Addr} {ns : List Int} {Q : Value → Shared → Prop} (hh : A.handled = none) (hT : IL s.heap a ns) (hlen : ns.length ≤ 1000)
    (h : ∀ h' tk r, Upto [] s.heap h' → s.heap.get? r = none → IL h' r ns → Q (.ref r) { s with heap := h', toks := tk }) : wpAny (model prog w) A (call (.type "list") [.ref a]) Q E s := by
  obtain ⟨vs, ⟨n, p⟩, i⟩ := hT
  refine call_list_seq a (.inl rfl) p rfl rfl (fun h' c' hk hD => h h' _ _ (fun b o _ e => hk b o e) get_none_size ⟨vs, ⟨c', hD⟩, i⟩) ?_
  rw [List.size_toArray, i.length, sizeLine_eq]; omega

set_option maxHeartbeats 4000000 in
theorem sas_call {X Z : Addr} {ps : List (Int × Int)} {T0 : List Int} (B : Base (KK w) s.heap) (hroom : A.depth < recursionLimit) (hs : ∀ p, p ∈ ps → Small p) (hps12 : ∀ l : List (Int × Int), l.Nodup → (∀ p, p ∈ l → p ∈ ps) → l.length ≤ 12)
    (hsix : ∀ n, n ∈ T0 → n ∈ six) (hlen : T0.length ≤ 6) (hX : ∃ o, s.heap.get? X = some o) (hZ : ∃ o, s.heap.get? Z = some o)
    (h : ∀ h' tk r gs, Upto [] s.heap h' → s.heap.get? r = none → h'.IsGen r s.gens.size →
      (∀ (A' : Around) (outer : List Env) (s'' : Shared), A'.handled = none → A'.depth + 10 < recursionLimit → A'.units + 100 < cLine → A'.frames = some outer → (∀ b, b ∈ framesAt outer → ∃ o, s.heap.get? b = some o) →
        Resum w s.heap X Z ps T0 outer h' s''.heap → GenState.Goes (model prog w) A' (GR w s.heap ps T0 outer) (GY w s.heap X Z ps T0 outer) T0.length gs (.send .none) s'') →
      R (.ok (.ret (.ref r))) { s with heap := h', toks := tk, gens := s.gens.push gs }) :
    codeAny (model prog w) A (.call (.ref 57) ⟨[.ref X, .ref Z], []⟩) R s := by
  refine call_gen B (a := 57) (o := _) rfl rfl (by kernel_rfl) hroom rfl (binds := [(Str.ofString "tuples", .ref X), (Str.ofString "allitems", .ref Z)]) (by rfl) rfl (fun n => by rfl) ?_
  intro h1 tk h2 r U1 hns hcell habove U2 fr hgen
  have fr0 : s.heap.get? r = none := none_of U1 fr
  refine h h2 tk r _ (U1.trans U2) fr0 hgen ?_
  have l1 : Loc h1 s.heap.objs.size [(Str.ofString "tuples", .ref X), (Str.ofString "allitems", .ref Z)] := Loc.of hns (List.forall_mem_cons.mpr ⟨rfl, List.forall_mem_cons.mpr ⟨rfl, fun _ h => nomatch h⟩⟩)
  have c1 : h1.IsCell (s.heap.objs.size + 1) none := hcell (Str.ofString "todo_set") (s.heap.objs.size + 1) rfl
  clear hns hcell habove
  intro A' outer s'' hh hd hu hfr hFS hRes
  have nL : s.heap.get? s.heap.objs.size = none := get_none_size
  have nc : s.heap.get? (s.heap.objs.size + 1) = none := Heap.get?_none_of_le (Nat.le_succ _)
  have l2 : Loc s''.heap s.heap.objs.size [(Str.ofString "tuples", .ref X), (Str.ofString "allitems", .ref Z)] := by
    obtain ⟨mm, ⟨o, es, ep, ho, rr⟩, ff⟩ := l1
    exact ⟨mm, ⟨o, es, ep, hRes.keep _ _ nL (U2.at ho (by simp)), rr⟩, ff⟩
  have c2 : s''.heap.IsCell (s.heap.objs.size + 1) none := by
    obtain ⟨o, ho, hd⟩ := c1
    exact ⟨o, hRes.keep _ _ nc (U2.at ho (by simp)), hd⟩
  have B2 := hRes.base
  have S2 := hRes.src
  have Z2 := hRes.items
  have F2 := hRes.frames
  have hOld := hRes.old
  clear hRes U1 U2 l1 c1 hgen fr
  generalize hL : s.heap.objs.size = L at l2 c2 nL nc ⊢
  have hc0 : L + 1 ≠ L := Nat.succ_ne_self L
  refine ⟨rfl, seg_func ?_⟩
  -- edges = defaultdict(set)
  have hhA1 : ∀ c, (A'.over c []).handled = none := fun c => hh
  have fd : s''.heap.get? s''.heap.objs.size = none := get_none_size
  refine seg_execs_cons (seg_wrap (wpAny_Assign_Name (callT1 (T := ddN) (ldG B2 g_dd ⟨rfl, ldSet B2 (call_dd (big B2) fun h3 tk3 u3 D3 _ => ?_)⟩))))
  dsimp only at u3 D3 ⊢
  generalize s''.heap.objs.size = d at fd D3 ⊢
  obtain ⟨oL, _, _, hoL, _⟩ := l2.get
  have hdL : d ≠ L := (ne_of_none hoL fd).symm
  refine stL (l2.at u3 (by simp)) fun h4 l4 sb4 => ?_
  dsimp only
  replace l4 : Loc h4 L _ := l4
  have u34 : Upto [L] h3 h4 := Upto.same sb4 (.head _)
  have u4 : Upto [L] s''.heap h4 := (u3.mono (by simp)).trans u34
  have T4 : Tb w h4 d ddN ddS [] (fun _ => []) := dd_empty (D3.at u34 (by simpa using hdL))
  have hXL : X ≠ L := by obtain ⟨o, ho⟩ := hX; exact ne_of_none ho nL
  have hZL : Z ≠ L := by obtain ⟨o, ho⟩ := hZ; exact ne_of_none ho nL
  have S4 : Src w h4 X ps := S2.at u4 (by simpa using hXL) fun r p t => by simpa using l2.ne_tup t
  -- for parent, child in tuples
  refine seg_execs_cons (seg_wrap (dd_for (b := false) (bk := [(Str.ofString "edges", .ref d), (Str.ofString "tuples", .ref X), (Str.ofString "allitems", .ref Z)]) hh (l4.pick ⟨rfl, rfl, rfl, trivial⟩) S4 hs T4 hdL hXL (fun _ _ => ⟨rfl, rfl, rfl, trivial⟩) rfl (fun _ _ => rfl) (fun _ _ => rfl) (fun _ _ => rfl) fun h5 tk5 m f u45 l5 T5 hf hkeys hfr5 => ?_))
  dsimp only at u45 l5 ⊢
  replace u45 : Upto [L, d] h4 h5 := u45
  replace l5 : Loc h5 L _ := l5
  have u5 : Upto [L] s''.heap h5 := u4.write u45 fun b hb => by
    rcases List.mem_cons.mp hb with rfl | hb
    · exact .inr (.head _)
    · rw [List.mem_singleton.mp hb]; exact .inl fd
  have base : ∀ h, Upto [L] s''.heap h → Base (KK w) h := fun h u => B.move B2 u fun a ha => by rw [List.mem_singleton.mp ha]; exact nL
  -- todo = list(allitems)
  have Z5 : IL h5 Z T0 := Z2.at u5 (by simpa using hZL)
  refine seg_execs_cons (seg_wrap (wpAny_Assign_Name (callT1 (T := "list") (ldB (base _ u5) g_list b_list (by decide) ⟨rfl, ldL l5 rfl (call_list_il hh Z5 (by omega) fun h6 tk6 td u6 ftd T6 => ?_)⟩))))
  dsimp only at u6 T6 ⊢
  have l6 := l5.at u6 (by simp)
  refine stL l6 fun h7 l7 sb7 => ?_
  dsimp only
  replace l7 : Loc h7 L _ := l7
  have u67 : Upto [L] h6 h7 := Upto.same sb7 (.head _)
  have u57 : Upto [L] h5 h7 := (u6.mono (by simp)).trans u67
  have u7 : Upto [L] s''.heap h7 := u5.trans u57
  have htdL : td ≠ L := by obtain ⟨o, _, _, ho, _⟩ := l5.get; exact (ne_of_none ho ftd).symm
  have T7 : IL h7 td T0 := T6.at u67 (by simpa using htdL)
  have Z7 : IL h7 Z T0 := Z2.at u7 (by simpa using hZL)
  -- todo_set = set(allitems)
  obtain ⟨vZ, pZ, iZ⟩ := id Z7
  have fts : h7.get? h7.objs.size = none := get_none_size
  refine seg_execs_cons (seg_wrap (wpAny_Assign_Name (callT1 (T := "set") (ldSet (base _ u7) ⟨rfl, ldL l7 rfl (call_set_of_list hh pZ.list iZ hsix fun h8 tk8 Ts u8 S8 hTs => ?_)⟩))))
  dsimp only at u8 S8 ⊢
  generalize h7.objs.size = ts at fts S8 ⊢
  have c8 : h8.IsCell (L + 1) none := IsCell.at (IsCell.at c2 u7 (by simpa using hc0)) u8 (by simp)
  refine wpAny_storeName_cell rfl rfl rfl c8 fun h9 c9 sb9 => ?_
  dsimp only
  have u89 : Upto [L + 1] h8 h9 := Upto.same sb9 (.head _)
  have u79 : Upto [L + 1] h7 h9 := (u8.mono (by simp)).trans u89
  have ncell : ∀ {b : Addr} {o : Obj}, h7.get? b = some o → (∀ v, o.data ≠ .cell v) → b ∉ [L + 1] := fun {b o} e hd => by
    obtain ⟨oc, hoc, hdc⟩ := IsCell.at c2 u7 (by simpa using hc0)
    rw [List.mem_singleton]
    rintro rfl
    rw [hoc] at e; cases e
    exact hd _ hdc
  have u9 : Upto [L, L + 1] s''.heap h9 := (u7.mono (by simp)).trans (u79.mono (by simp))
  have T59 : Tb w h7 d ddN ddS m f := T5.at u57 (by simpa using hdL) fun p hp => by simpa using T5.ne_loc l5 hp
  have hXc : X ≠ L + 1 := by obtain ⟨o, ho⟩ := hX; exact ne_of_none ho nc
  have hZc : Z ≠ L + 1 := by obtain ⟨o, ho⟩ := hZ; exact ne_of_none ho nc
  have newh : ∀ {b : Addr}, h7.get? b = none → s.heap.get? b = none := fun {b} e => hOld _ (by
    cases q : s''.heap.get? b with
    | none => rfl
    | some o =>
      by_cases z : b = L
      · subst z; obtain ⟨o, _, _, ho, _⟩ := l7.get; rw [ho] at e; cases e
      · rw [u7.at q (by simpa using z)] at e; cases e)
  have nts : s.heap.get? ts = none := newh fts
  have ntd : s.heap.get? td = none := hOld _ (by
    cases q : s''.heap.get? td with
    | none => rfl
    | some o => rw [u5.at q (by simpa using htdL)] at ftd; cases ftd)
  have nd : s.heap.get? d = none := hOld _ fd
  have nm : ∀ p, p ∈ m → s.heap.get? p.2 = none := fun p hp => hOld _ (by
    cases q : s''.heap.get? p.2 with
    | none => rfl
    | some o =>
      have hpL : p.2 ≠ L := T5.ne_loc l5 hp
      have := hfr5 p hp
      rw [u4.at q (by simpa using hpL)] at this; cases this)
  have l9 : Loc h9 L [(Str.ofString "todo", .ref td), (Str.ofString "edges", .ref d), (Str.ofString "tuples", .ref X), (Str.ofString "allitems", .ref Z)] := (l7.at u79 (by simpa using hc0.symm)).pick ⟨rfl, rfl, rfl, rfl, trivial⟩
  have hts1 : ts ≠ L + 1 := by
    obtain ⟨oc, hoc, _⟩ := IsCell.at c2 u7 (by simpa using hc0)
    exact (ne_of_none hoc fts).symm
  have G9 : GInv w s.heap h9 X Z L (L + 1) ps T0 T0 outer := by
    refine ⟨(S2.at u7 (by simpa using hXL) fun r p t => by simpa using l2.ne_tup t).at u79 (by simpa using hXc) fun r p t => ?_, Z7.at u79 (by simpa using hZc), B.move B2 u9 ?_, F2.upto u9 ?_, ?_, nL, nc, td, ts, d, Ts, m, f, l9, c9, T7.at u79 ?_, (S8.at u89 (by simpa using hts1)).weak, hTs, T59.at u79 ?_ ?_, ?_, ntd, nts, nd, fun p hp => ⟨nm p hp, ?_⟩, hdL⟩
    · obtain ⟨o, n, _, _, ho, _, hd⟩ := t
      exact ncell ho (by rw [hd]; exact fun v q => nomatch q)
    · intro a ha
      rcases List.mem_cons.mp ha with rfl | ha
      · exact nL
      · rw [List.mem_singleton.mp ha]; exact nc
    · intro b hb q
      obtain ⟨o, ho⟩ := hFS b hb
      rcases List.mem_cons.mp q with rfl | q
      · rw [nL] at ho; cases ho
      · rw [List.mem_singleton.mp q, nc] at ho; cases ho
    · intro b hb
      refine hOld b ?_
      cases q : s''.heap.get? b with
      | none => rfl
      | some o =>
        by_cases z : b ∈ [L, L + 1]
        · rcases List.mem_cons.mp z with rfl | z
          · obtain ⟨o, _, _, ho, _⟩ := l9.get; rw [ho] at hb; cases hb
          · obtain ⟨o, ho, _⟩ := c9
            rw [List.mem_singleton.mp z, ho] at hb; cases hb
        · rw [u9.at q z] at hb; cases hb
    · obtain ⟨o, ho, hco⟩ := T7.get
      obtain ⟨vs, ⟨n, p⟩, _⟩ := T7
      exact ncell p (fun v q => nomatch q)
    · obtain ⟨ep0, es, e1, _⟩ := T59.dt
      exact ncell e1 (fun v q => nomatch q)
    · intro p hp
      obtain ⟨es, ep, t, ho, O⟩ := T59.set p hp
      exact ncell ho (fun v q => nomatch q)
    · intro k x
      rw [hf]
      constructor
      · rintro ⟨p, hp, e⟩; cases e; exact hp
      · intro hp; exact ⟨(x, k), hp, rfl⟩
    · obtain ⟨es, ep, t, ho, O⟩ := T59.set p hp
      exact ne_of_none ho fts
  have FR9 : FrG s.heap [] s''.heap h9 := (FrG.refl s.heap s''.heap []).write u9 fun b hb => by
    rcases List.mem_cons.mp hb with rfl | hb
    · refine .inr ⟨nL, fun o ho q => ?_⟩
      obtain ⟨o', es, ep, ho', hd'⟩ := l2.get
      rw [ho'] at ho; cases ho
      rcases q with ⟨_, _, q⟩ | ⟨_, q⟩ <;> rw [hd'] at q <;> cases q
    · rw [List.mem_singleton.mp hb]
      refine .inr ⟨nc, fun o ho q => ?_⟩
      obtain ⟨o', ho', hd'⟩ := c2
      rw [ho'] at ho; cases ho
      rcases q with ⟨_, _, q⟩ | ⟨_, q⟩ <;> rw [hd'] at q <;> cases q
  have ex9 : ∀ b, h9.get? b = none → s''.heap.get? b = none := by
    intro b hb
    cases q : s''.heap.get? b with
    | none => rfl
    | some o =>
      by_cases z : b ∈ [L, L + 1]
      · rcases List.mem_cons.mp z with rfl | z
        · obtain ⟨o, _, _, ho, _⟩ := l9.get; rw [ho] at hb; cases hb
        · obtain ⟨o, ho, _⟩ := c9
          rw [List.mem_singleton.mp z, ho] at hb; cases hb
      · rw [u9.at q z] at hb; cases hb
  clear S8 S2 Z2 F2 T7 Z7 iZ pZ T59 T5 T6 l9 l7 l6 l5 l4 l2 c8 c9 c2 sb9 sb7 sb4 u9 u79 u89 u8 u7 u57 u67 u6 u5 u45 u4 u34 u3
  refine seg_execs_cons (seg_While fun pw => ?_)
  refine seg_while_ind (Inv := fun n s0 s1 => n ≤ T0.length ∧ ∃ h tk, s1 = { s0 with heap := h, toks := tk } ∧ FrG s.heap [] s0.heap h ∧ (∀ b, h.get? b = none → s0.heap.get? b = none) ∧ (∀ b, s0.heap.get? b = none → s.heap.get? b = none) ∧ GInv w s.heap h X Z L (L + 1) ps T0 (todoAt ps T0 (T0.length - n)) outer ∧ (todoAt ps T0 (T0.length - n)).length ≤ n)
    (fun n s0 s1 ih hI => ?_) T0.length _ _ ⟨Nat.le_refl _, h9, _, rfl, FR9, ex9, hOld, by simpa [todoAt] using G9, by simp [todoAt]⟩
  clear G9 FR9
  obtain ⟨hn, h10, tk10, rfl, FR, ex0, old0, G, hle⟩ := hI
  generalize hT : todoAt ps T0 (T0.length - n) = T at G hle
  have hTsub : ∀ x, x ∈ T → x ∈ six := fun x hx => hsix x (by rw [← hT] at hx; exact todoAt_sub hx)
  obtain ⟨td, ts, d, Ts, m, f, l, hce, hTl, hS, hTs, hTb, hf, n1, n2, n3, n4, n5⟩ := id G.body
  refine seg_whileLoop (wpAny_isTrue_value (ldC hce (truthy_set hS ?_)))
  have hemp : Ts.isEmpty = T.isEmpty := by
    cases T with
    | nil =>
      cases Ts with
      | nil => rfl
      | cons x r => exact absurd ((hTs x).mp (.head _)) List.not_mem_nil
    | cons x r =>
      cases Ts with
      | nil => exact absurd ((hTs x).mpr (.head _)) List.not_mem_nil
      | cons y r' => rfl
  rw [hemp]
  cases hTe : T with
  | nil =>
    simp only [List.isEmpty_nil, Bool.not_true, Bool.false_eq_true, ↓reduceIte]
    refine seg_execs_nil (seg_leaf (.ok .next) (seg_end (.ok (.ret .none)) (.inl ⟨by rw [hT, hTe], rfl, h10, _, rfl, FR⟩)))
  | cons t0 r0 =>
    have hne : T ≠ [] := by rw [hTe]; exact fun q => nomatch q
    have hpos : 0 < T.length := List.length_pos_iff.mpr hne
    rw [← hTe]
    have hem2 : (!T.isEmpty) = true := by rw [hTe]; rfl
    rw [hem2]
    simp only [↓reduceIte]
    obtain ⟨n, rfl⟩ : ∃ k, n = k + 1 := ⟨n - 1, by omega⟩
    -- output = []
    obtain ⟨oL, esL, epL, hoL, hdLd⟩ := l.get
    have fo : h10.get? h10.objs.size = none := get_none_size
    refine seg_execs_cons (seg_wrap (wpAny_Assign_Name (emptyList ?_)))
    have u11 : Upto [] h10 (h10.push (seqObj "list" #[] 0)) := Upto.push _
    have go : IL (h10.push (seqObj "list" #[] 0)) h10.objs.size [] := ⟨[], ⟨0, Heap.get?_push_size _ rfl⟩, .nil⟩
    generalize h10.push (seqObj "list" #[] 0) = h11 at u11 go ⊢
    dsimp only
    generalize h10.objs.size = out at fo go ⊢
    have hoL' : out ≠ L := (ne_of_none hoL fo).symm
    refine stL (l.at u11 (by simp)) fun h12 l12 sb12 => ?_
    dsimp only
    replace l12 : Loc h12 L _ := l12
    have u1112 : Upto [L] h11 h12 := Upto.same sb12 (.head _)
    have u12 : Upto [L] h10 h12 := (u11.mono (by simp)).trans u1112
    have go12 : IL h12 out [] := go.at u1112 (by simpa using hoL')
    have S12 := hS.at u12 (by simpa using (l.ne_set hS))
    have T12 := hTl.at u12 (by simpa using (l.ne_il hTl))
    have Tb12 := hTb.at u12 (by simpa using n5) fun p hp => by simpa using hTb.ne_loc l hp
    have hcL : L + 1 ≠ L := hc0
    have c12 := IsCell.at hce u12 (by simpa using hcL)
    have hot : out ≠ td := by obtain ⟨o, ho, _⟩ := hTl.get; exact (ne_of_none ho fo).symm
    have hTlen : T.length ≤ 6 := by rw [← hT]; exact Nat.le_trans (todoAt_len _) hlen
    -- for node in todo
    refine seg_execs_cons (seg_wrap (ready_for (bs0 := .ref X) (bs1 := .ref Z) (c := L + 1) hh l12 T12 S12 hTs Tb12 hf go12 c12 hTsub (by omega) (fun p hp => (n4 p hp).2) hot n5 fun h13 tk13 m13 u1213 l13 Tb13 hm13 go13 => ?_))
    dsimp only at u1213 l13 ⊢
    replace u1213 : Upto [L, d, out] h12 h13 := u1213
    replace l13 : Loc h13 L _ := l13
    obtain ⟨ots, hots, hcts⟩ := hS.get
    obtain ⟨od, hod, hcd⟩ := hTb.get
    obtain ⟨otd, hotd, hctd⟩ := hTl.get
    have hsL : ts ≠ L := l.ne_set hS
    have htL : td ≠ L := l.ne_il hTl
    have hsd : ts ≠ d := cls_ne hots hod (by rw [hcts, hcd]; decide)
    have htd' : td ≠ d := cls_ne hotd hod (by rw [hctd, hcd]; decide)
    have hso : ts ≠ out := ne_of_none hots fo
    have hdo : d ≠ out := ne_of_none hod fo
    have hco : L + 1 ≠ out := by obtain ⟨o, ho, _⟩ := hce; exact ne_of_none ho fo
    have hcd' : L + 1 ≠ d := by
      obtain ⟨o, ho, hd⟩ := hce
      obtain ⟨ep0, es, e1, _⟩ := hTb.dt
      exact data_ne ho e1 (by rw [hd]; exact fun e => nomatch e)
    have S13 := S12.at u1213 (by simp [hsL, hsd, hso])
    have T13 := T12.at u1213 (by simp [htL, htd', hot.symm])
    have c13 := IsCell.at c12 u1213 (by simp [hcL, hcd', hco])
    have u13 : Upto [L, d] h10 h13 := (u12.mono (by simp)).write u1213 fun b hb => by
      rcases List.mem_cons.mp hb with rfl | hb
      · exact .inr (.head _)
      · rcases List.mem_cons.mp hb with rfl | hb
        · exact .inr (.tail _ (.head _))
        · rw [List.mem_singleton.mp hb]; exact .inl fo
    have hrl : (ready ps T).length ≤ 6 := Nat.le_trans (List.length_filter_le ..) hTlen
    -- if not output: raise
    refine seg_execs_cons (seg_wrap (wpAny_If (wpAny_isTrue_Not (wpAny_isTrue_value (ldL l13 rfl (il_truthy go13 (by omega) ?_))))))
    cases hr : ready ps T with
    | nil =>
      simp only [List.isEmpty_nil, Bool.not_true, Bool.not_false, ↓reduceIte]
      refine wpAny_execs_cons (raise_cde hh ?_ ?_)
      · exact (show A'.depth + 1 + 2 < recursionLimit by omega)
      have hex13 : ∀ {b : Addr}, (∃ o, s.heap.get? b = some o) → b ∉ [L, d] := fun {b} hb q => by
        obtain ⟨o, ho⟩ := hb
        rcases List.mem_cons.mp q with rfl | q
        · rw [nL] at ho; cases ho
        · rw [List.mem_singleton.mp q, n3] at ho; cases ho
      have B13 : Base (KK w) h13 := B.move G.base u13 fun b hb => by
        rcases List.mem_cons.mp hb with rfl | hb
        · exact nL
        · rw [List.mem_singleton.mp hb]; exact n3
      have S13' : Src w h13 X ps := G.src.at u13 (hex13 hX) fun r p tp => by
        obtain ⟨o, ho, hc⟩ := tp.get
        simp only [List.mem_cons, List.not_mem_nil, or_false, not_or]
        exact ⟨l.ne_tup tp, cls_ne ho hod (by rw [hc, hcd]; decide)⟩
      refine ldG B13 g_err ⟨rfl, Constant_str (callU2 (ldG B13 g_find ⟨rfl, ldL l13 rfl (ldL l13 rfl ⟨⟨_, B13.1 72 _ rfl, rfl⟩, wpAny_call (find_cycles B13 hh (show A'.depth + 1 < recursionLimit by omega) S13' hs fun h14 tk14 cy O u14 fcy SO hO => ?_)⟩)⟩))⟩
      dsimp only at u14 fcy ⊢
      have B14 : Base (KK w) h14 := B13.keeps fun b o e => u14 b o (by simp) e
      have l14 := l13.at u14 (by simp)
      have Tb14 := Tb13.at u14 (by simp) (by simp)
      obtain ⟨ep14, D14⟩ := Tb14.dt
      refine callU1 (ldG B14 g_gen ⟨rfl, ldL l14 rfl ⟨⟨_, B14.1 77 _ rfl, rfl⟩, wpAny_call (gen_edges B14 hh (show A'.depth + 1 < recursionLimit by omega) (show A'.units + 3 + 50 < cLine by omega) D14 Tb14.set ?_ ?_ fun h15 tk15 ed le u15 fed Se hle' => ?_)⟩⟩)
      · intro p hp hne2
        cases hfe : f p.1 with
        | nil => exact absurd hfe hne2
        | cons x r =>
          have := hs _ ((hf p.1 x).mp (by rw [hfe]; exact .head _))
          exact this.2
      · intro le hnd hmem
        refine hps12 le hnd fun p hp => ?_
        obtain ⟨q, _, e1, e2⟩ := hmem p hp
        have := (hf q.1 p.1).mp e2
        rw [← e1] at this
        exact this
      dsimp only at u15 Se fed ⊢
      have hle2 : ∀ p, p ∈ le ↔ p ∈ ps := fun p => by
        rw [hle']
        constructor
        · rintro ⟨q, _, e1, e2⟩
          have := (hf q.1 p.1).mp e2
          rw [← e1] at this
          exact this
        · intro hp
          have hfp : p.1 ∈ f p.2 := (hf p.2 p.1).mpr hp
          have hk : p.2 ∈ m13.map (·.1) := Classical.byContradiction fun q => by rw [Tb13.out _ q] at hfp; cases hfp
          obtain ⟨q, hq, e⟩ := List.mem_map.mp hk
          exact ⟨q, hq, e.symm, by rw [e]; exact hfp⟩
      refine ⟨cy, ed, rfl, rfl, B14.keeps fun b o e => u15 b o (by simp) e, fun h16 tk16 e D u16 hnew => ?_⟩
      obtain ⟨t16, he16, fe, fD, neD, nsD⟩ := hnew
      have hfrA : ∀ (c : Code) (fs : List Frame) (env : Env), c.envs = [] → envsOf (fs.map Frame.where_) = [env] → (A'.over c fs).frames = some (env :: outer) := fun c fs env q1 q2 => by
        show pushEnvs c.envs (pushEnvs _ A'.frames) = _
        rw [q1, q2, hfr]; rfl
      have l16 : Loc h16 L _ := (l14.at u15 (by simp)).at u16 (by simp)
      obtain ⟨o16, es16, ep16, ho16, hd16⟩ := l16.get
      have F16 : ∀ env : Env, env.scope.kind ≠ .module → env.frame = some L → Frames h16 (env :: outer) := fun env q1 q2 =>
        ⟨q1, ⟨L, o16, q2, noHeap_get _, ho16, fun vs q => by rw [hd16] at q; cases q⟩, ((G.frames.upto u13 fun b hb => hex13 (hFS b hb)).upto u14 (by simp)).upto (u15.trans u16) (by simp)⟩
      refine seg_wrap (wpAny_bind (note_first (outer := outer) (L := L) (hfrA _ _ _ rfl rfl) (F16 _ (fun q => nomatch (show ScopeKind.function = ScopeKind.module from q)) rfl) rfl he16 rfl rfl rfl fun h17 T u17 k17 fT x17 => ?_))
      refine wpAny_theTreesLotGoes ?_
      generalize hS0 : framesAt (_ :: outer) = S at u17 k17
      have fe15 : h15.get? e = none := fe
      have fl17 : Flies S h15 h17 e (.ref 49) (some D) (rawInt L) := ⟨fun b o hb e1 => u17 b o (fun q => by
          rcases List.mem_append.mp q with q | q
          · exact hb q
          · rw [List.mem_singleton.mp q, fe15] at e1; cases e1) (u16.at e1 (by simp)), fun b hb o e1 => k17 b hb o (u16.at e1 (by simp)), fe15, T, none_of u16 fT, x17⟩
      have hSe : S = L :: framesAt outer := by rw [← hS0]; rfl
      have exS13 : ∀ b, b ∈ S → ∃ o, h13.get? b = some o := by
        intro b hb
        rw [hSe] at hb
        rcases List.mem_cons.mp hb with rfl | hb
        · obtain ⟨o, _, _, ho, _⟩ := l13.get
          exact ⟨o, ho⟩
        · obtain ⟨_, o, ho, _⟩ := (G.frames.upto u13 fun b hb => hex13 (hFS b hb)).mem hb
          exact ⟨o, ho⟩
      have exS15 : ∀ b, b ∈ S → ∃ o, h15.get? b = some o := fun b hb => let ⟨o, ho⟩ := exS13 b hb; ⟨o, u15.at (u14.at ho (by simp)) (by simp)⟩
      have back13 : ∀ b, h13.get? b = none → s0.heap.get? b = none := fun b hb => ex0 _ (by
        cases q : h10.get? b with
        | none => rfl
        | some o =>
          by_cases z : b ∈ [L, d]
          · rcases List.mem_cons.mp z with rfl | z
            · obtain ⟨o, _, _, ho, _⟩ := l13.get
              rw [ho] at hb; cases hb
            · obtain ⟨o, ho, _⟩ := Tb13.get
              rw [List.mem_singleton.mp z, ho] at hb; cases hb
          · rw [u13.at q z] at hb; cases hb)
      have back15 : ∀ b, h15.get? b = none → s0.heap.get? b = none := fun b hb => back13 _ (none_of (u14.trans u15) hb)
      refine seg_leaf (.error (.ref e)) ?_
      show Seg _ _ _ _ _ _ _ (Sem.wrap _ _ _ _ ((Sem.raise (Value.ref e) : Sem Flow).onRaise _)) _ _
      rw [Sem.onRaise_eq_wrap, Sem.wrap_wrap]
      show Seg _ _ _ _ _ _ _ (Sem.wrap _ _ _ _ (Sem.bind _ _)) _ _
      rw [Sem.bind_eq_wrap, Sem.wrap_wrap]
      refine seg_wrap (wpAny_bind (fl17.field1 (s := { s0 with heap := h17, toks := tk16 }) fun T => ?_))
      rw [if_neg (show ¬ ((Value.ref T == Value.none) = true) from by simp)]
      refine fl17.flight' (s := { s0 with heap := h17, toks := tk16 }) fun h18 fl18 k18 => ?_
      show Seg _ _ _ _ _ _ _ (Sem.wrap _ _ _ _ (leaving _ _)) _ _
      refine seg_wrap (wpAny_bind (fl18.again (s := { s0 with heap := h18, toks := tk16 }) rfl ?_))
      refine fl18.flight' (s := { s0 with heap := h18, toks := tk16 }) fun h19 fl19 k19 => ?_
      refine seg_end (.error (.ref e)) (.inr ⟨by rw [hT]; exact hne, by rw [hT]; exact hr, e, h19, tk16, rfl, rfl, ?_, ?_⟩)
      · refine ⟨fun b o hb e1 q => ?_, fun b hb o e1 => ?_⟩
        · have e2 := FR.1 b o (by simp) e1 q
          have hbL : b ≠ L := by
            rintro rfl
            rcases q with q | q
            · exact q nL
            · rw [hoL] at e2; cases e2
              rcases q with ⟨_, _, q⟩ | ⟨_, q⟩ <;> rw [hdLd] at q <;> cases q
          have hbd : b ≠ d := by
            rintro rfl
            rcases q with q | q
            · exact q n3
            · obtain ⟨ep0, es, e3, _⟩ := hTb.dt
              rw [e3] at e2; cases e2
              rcases q with ⟨_, _, q⟩ | ⟨_, q⟩ <;> cases q
          exact fl19.1 b o (by rw [hSe]; simp [hbL, hb]) (u15.at (u14.at (u13.at e2 (by simp [hbL, hbd])) (by simp)) (by simp))
        · have hx := hFS b hb
          obtain ⟨o', ho'⟩ := id hx
          have e2 := FR.1 b o (by simp) e1 (.inl (by rw [ho']; exact fun q => nomatch q))
          exact fl19.2.1 b (by rw [hSe]; exact .tail _ hb) o (u15.at (u14.at (u13.at e2 (hex13 hx)) (by simp)) (by simp))
      · have ns17 := nsD.at (h' := h17) fun o ho => u17 D o (fun q => by
          rcases List.mem_append.mp q with q | q
          · obtain ⟨o', ho'⟩ := exS15 D q
            rw [fD] at ho'; cases ho'
          · exact neD (List.mem_singleton.mp q)) ho
        have ns19 := ns17.at (h' := h19) fun o ho => (k18.trans k19) D o ho (by
          obtain ⟨o', es, ep, ho', hdo, _⟩ := ns17
          rw [ho'] at ho; cases ho
          rw [hdo]; exact fun _ q => nomatch q)
        obtain ⟨_, _, _, T19, fT19, x19⟩ := id fl19
        refine ⟨back15 e fe, D, cy, ed, O, le, back15 D fD, neD, ⟨T19, back15 _ fT19, ?_, x19⟩, ns19, back13 _ fcy, back13 _ (none_of u14 fed), ?_, hO, ?_, hle2⟩
        · obtain ⟨o, es, ep, ho, hdo, rr⟩ := ns19
          obtain ⟨_, _, oT, ts', _, _, _, _, _, _, _, hT', hd', _⟩ := x19
          exact data_ne hT' ho (by rw [hdo, hd']; exact fun q => nomatch q)
        · refine (SO.at u15 (by simp)).at fl19.1 fun q => ?_
          obtain ⟨o, ho⟩ := exS13 _ q
          rw [fcy] at ho; cases ho
        · refine (Se.at fl19.1 (fun q => ?_) fun b hb g => ?_).weak fun r p _ g => back13 _ (none_of u14 g)
          · obtain ⟨o, ho⟩ := exS13 _ q
            rw [none_of u14 fed] at ho; cases ho
          · obtain ⟨o, ho⟩ := exS13 _ hb
            have := u14.at ho (by simp)
            rw [g] at this; cases this
    | cons r1 rr =>
      rw [← hr]
      have hrne : ready ps T ≠ [] := by rw [hr]; exact fun q => nomatch q
      have hrem : (!(!(ready ps T).isEmpty)) = false := by rw [hr]; rfl
      rw [hrem]
      simp only [Bool.false_eq_true, ↓reduceIte]
      refine wpAny_execs_nil ?_
      dsimp only
      -- todo_set.difference_update(output)
      obtain ⟨vo, po, io⟩ := id go13
      refine seg_execs_cons (seg_wrap (wpAny_Expr (meth1 (ldC c13 ⟨"set", "set.difference_update", PySem.F.plainAttrs_set, PySem.F.slot_set_difference_update, PySem.F.type_set_difference_update, ISet.type (s := { s0 with heap := h13 }) S13, ISet.noDict (s := { s0 with heap := h13 }) S13,
        ldL l13 rfl (call_diffUpd hh S13 po.list io fun h14 tk14 Ts' u14 S14 mTs => ?_)⟩))))
      dsimp only at u14 ⊢
      have l14 := l13.at u14 (by simpa using hsL.symm)
      have T14 := T13.at u14 (by simpa using (ne_of_lists S13 T13))
      have c14 := IsCell.at c13 u14 (by
        obtain ⟨o, ho, hd⟩ := c13
        obtain ⟨es, ep, t, ho', O⟩ := S13
        simpa using data_ne ho ho' (by rw [hd]; exact fun e => nomatch e))
      have go14 := go13.at u14 (by simpa using hso.symm)
      have Tb14 : Tb w h14 d ddN ddS m13 f := Tb13.at u14 (by simpa using hsd.symm) fun p hp => by
        rcases hm13 p hp with z | z
        · simpa using (n4 p z).2
        · have : h12.get? ts = some ots := u12.at hots (by simpa using hsL)
          simpa using (ne_of_none this z).symm
      -- todo = [t for t in todo if t in todo_set]
      refine seg_execs_cons (seg_wrap (todo_comp hh l14 rfl T14 S14 c14 (by omega) (fun h15 tk15 td' u15 ftd' T15 l15 => ?_) rfl rfl (by decide) rfl (by decide) rfl (fun C => rfl) rfl))
      dsimp only
      replace l15 : Loc h15 L _ := l15
      replace u15 : Upto [L] h14 h15 := u15
      -- yield output
      refine seg_execs_cons (seg_Expr_Yield rfl rfl rfl (ldL l15 rfl ?_))
      intro kap hkap
      have u14' : Upto [L, d, ts] h10 h14 := (u13.mono (by simp)).trans (u14.mono (by simp))
      have u15' : Upto [L, d, ts] h10 h15 := u14'.trans (u15.mono (by simp))
      have ltsd : ∀ b, b ∈ [L, d, ts] → s.heap.get? b = none ∧ ∃ o, h10.get? b = some o ∧ ¬ Seqish o := by
        intro b hb
        simp only [List.mem_cons, List.not_mem_nil, or_false] at hb
        rcases hb with rfl | rfl | rfl
        · exact ⟨nL, _, hoL, fun q => by rcases q with ⟨_, _, q⟩ | ⟨_, q⟩ <;> rw [hdLd] at q <;> cases q⟩
        · obtain ⟨ep0, es, e1, _⟩ := hTb.dt
          exact ⟨n3, _, e1, fun q => by rcases q with ⟨_, _, q⟩ | ⟨_, q⟩ <;> cases q⟩
        · obtain ⟨es, ep, t, ho, O⟩ := hS
          exact ⟨n2, _, ho, fun q => by rcases q with ⟨_, _, q⟩ | ⟨_, q⟩ <;> cases q⟩
      have old15 : ∀ b, h15.get? b = none → h10.get? b = none := by
        intro b hb
        cases q : h10.get? b with
        | none => rfl
        | some o =>
          by_cases z : b ∈ [L, d, ts]
          · simp only [List.mem_cons, List.not_mem_nil, or_false] at z
            rcases z with rfl | rfl | rfl
            · obtain ⟨o, _, _, ho, _⟩ := l15.get; rw [ho] at hb; cases hb
            · have := u15.at (Tb14.dt.choose_spec.choose_spec.1) (by simpa using n5)
              rw [this] at hb; cases hb
            · obtain ⟨o, ho, _⟩ := S14.get
              rw [u15.at ho (by simpa using hsL)] at hb; cases hb
          · rw [u15'.at q z] at hb; cases hb
      have nh : ∀ {b : Addr}, h15.get? b = none → s.heap.get? b = none := fun hb => G.old _ (old15 _ hb)
      have fo0 : s0.heap.get? out = none := ex0 _ fo
      have hoc : s.heap.get? out = none := old0 _ fo0
      have hk1 : T0.length - n = (T0.length - (n + 1)) + 1 := by omega
      have hTn : todoAt ps T0 (T0.length - n) = rest ps T := by rw [hk1]; show rest ps _ = _; rw [hT]
      refine ⟨out, h15, _, rfl, rfl, FR.write u15' fun b hb => .inr ⟨(ltsd b hb).1, fun o ho => ?_⟩, ?_, ?_, hn, fo0, hoc, fun s2 hRes => ?_⟩
      · obtain ⟨o', ho', q⟩ := (ltsd b hb).2
        rw [ho'] at ho; cases ho
        exact q
      · rw [hT]; exact go14.at u15 (by simpa using hoL')
      · rw [hT]; exact hrne
      · refine hkap _ s2 ?_
        show Seg _ _ _ _ n s2 _ (.pure (.again _)) _ s2
        refine seg_again rfl (ih n s2 (Nat.lt_succ_self n) ⟨by omega, s2.heap, s2.toks, rfl, FrG.refl _ _ _, fun _ hb => hb, hRes.old, ?_, ?_⟩)
        · rw [hTn]
          refine GInv.resume ?_ hRes
          have lx : Loc h15 L [(Str.ofString "todo", .ref td'), (Str.ofString "edges", .ref d), (Str.ofString "tuples", .ref X), (Str.ofString "allitems", .ref Z)] := l15.pick ⟨rfl, rfl, rfl, rfl, trivial⟩
          have hex : ∀ {b : Addr}, (∃ o, s.heap.get? b = some o) → b ∉ [L, d, ts] := fun {b} hb q => by
            obtain ⟨o, ho⟩ := hb
            rw [(ltsd b q).1] at ho; cases ho
          have htd'' : td' ≠ ts := by obtain ⟨o, ho, _⟩ := S14.get; exact (ne_of_none ho ftd').symm
          have hmem : ∀ x, x ∈ Ts' ↔ x ∈ T ∧ x ∉ ready ps T := fun x => by rw [mTs, hTs]
          have hfil : T.filter (fun n => decide (n ∈ Ts')) = rest ps T := List.filter_congr fun x hx => by
            rw [decide_eq_decide, hmem]
            exact ⟨fun q => q.2, fun q => ⟨hx, q⟩⟩
          refine ⟨G.src.at u15' (hex hX) fun r p tp q => ?_, G.items.at u15' (hex hZ), B.move G.base u15' fun b hb => (ltsd b hb).1, G.frames.upto u15' fun b hb => hex (hFS b hb), fun b hb => nh hb, nL, nc,
            td', ts, d, Ts', m13, f, lx, IsCell.at c14 u15 (by simpa using hcL), hfil ▸ T15, S14.at u15 (by simpa using hsL), fun x => by rw [hmem, mem_rest], Tb14.at u15 (by simpa using n5) (fun p hp => by simpa using Tb14.ne_loc l14 hp), hf, ?_, n2, n3, fun p hp => ?_, n5⟩
          · obtain ⟨o, n', _, _, ho, _, hd⟩ := tp
            obtain ⟨o', ho', hq⟩ := (ltsd r q).2
            rw [ho] at ho'; cases ho'
            exact hq (.inl ⟨_, _, hd⟩)
          · refine G.old _ ?_
            cases q : h10.get? td' with
            | none => rfl
            | some o =>
              by_cases z : td' ∈ [L, d, ts]
              · simp only [List.mem_cons, List.not_mem_nil, or_false] at z
                rcases z with z | z | z
                · obtain ⟨o, _, _, ho, _⟩ := l14.get; rw [z, ho] at ftd'; cases ftd'
                · have := Tb14.dt.choose_spec.choose_spec.1
                  rw [z, this] at ftd'; cases ftd'
                · exact absurd z htd''
              · rw [u14'.at q z] at ftd'; cases ftd'
          · rcases hm13 p hp with z | z
            · exact n4 p z
            · have hz : h10.get? p.2 = none := by
                cases q : h10.get? p.2 with
                | none => rfl
                | some o =>
                  by_cases zz : p.2 = L
                  · obtain ⟨o, _, _, ho, _⟩ := l12.get; rw [zz, ho] at z; cases z
                  · rw [u12.at q (by simpa using zz)] at z; cases z
              exact ⟨G.old _ hz, (ne_of_none hots hz).symm⟩
        · rw [hTn]
          have := rest_lt hrne
          omega
end
end Mine
end

section
open PySem PySem.W PySem.Calls PyProof.Rows
set_option Elab.async false
set_option maxRecDepth 100000
namespace Mine
open Builtin Builtin.ObjectAttr

section
variable {prog : Program} {w : World} {A : Around} {E : Value → Shared → Prop} {h : Heap} {g : Array GenState} {d : Drawn} {t : Nat} {os : OsState}
variable {nm q : Str} {C N x D : Addr} {o : Obj} {bs : List Value} {sn : List Str} {sub : List Value} {ab : Bool} {col : Option Bool} {dd : Option Addr} {k0 k1 k2 k3 k5 : Option Value} {newId : String}
  {mN mA : Str → Option Value} {name : Str} {v : Value}

theorem ga_entry {tk : Tok} {Q : Fin → Shared → Prop}
    (hC : h.get? C = some (excClassObj nm q C N bs [.type "Exception", .type "BaseException", .type "object"] true sn sub ab col dd k0 k1 k2 k3 k5 newId)) (hn : h.Ns N mN) (hna : mN name = none)
    (hB : typeLookup (.type "Exception") name = pure none) (hx : h.get? x = some o) (hc : o.cls = .ref C) (hnc : ∀ c, o.data ≠ .cls c) (hdx : o.dict = some D) (hns : h.Ns1 D mA) (hv : mA name = some v) (hq : Q (.done (.ret v)) ⟨h, g, d, t, os⟩) :
    wpAny (model prog w) A (Builtin.«object.__getattribute__» ⟨[.ref x, .str name tk], []⟩) Q E ⟨h, g, d, t, os⟩ := by
  unfold Builtin.«object.__getattribute__»
  repeat (first | (with_reducible refine wpAny_loadPart_at hx ?_; rw [hc]) | (with_reducible refine wpAny_typeLookup_exc hC hn F.attrBase_Exception.mro hB ?_; rw [hna]) | wp_step)
  split
  · rename_i c hcd
    exact absurd hcd (hnc c)
  unfold instanceDict
  repeat (first | (with_reducible refine wpAny_loadPart_at hx ?_; rw [hc]) | with_reducible refine wpAny_loadPart_at hC ?_ | wp_step)
  rw [hdx]
  repeat (first | (with_reducible refine wpAny_nsGet hns.ns ?_; rw [hv]) | wp_step)
  exact hq

theorem ga_attr {expr : Bool} {a : Addr} {Q : Value → Shared → Prop}
    (hC : h.get? C = some (excClassObj nm q C N bs [.type "Exception", .type "BaseException", .type "object"] true sn sub ab col dd k0 k1 k2 k3 k5 newId)) (hn : h.Ns N mN) (hng : mN "__getattribute__" = none) (hnh : mN "__getattr__" = none) (hna : mN name = none)
    (hB : typeLookup (.type "Exception") name = pure none) (hx : h.get? x = some o) (hc : o.cls = .ref C) (hnc : ∀ c, o.data ≠ .cls c) (hdx : o.dict = some D) (hns : h.Ns1 D mA) (hv : mA name = some (.ref a)) (hq : Q (.ref a) ⟨h, g, d, t + 1, os⟩) :
    wpAny (model prog w) A (getAttr (.ref x) name expr) Q E ⟨h, g, d, t, os⟩ := by
  have FB := F.attrBase_Exception
  have f3 := FB.ga.bind (.ref x)
  have hx0 : (expr && onTheHeap (Value.builtin "BaseException.__getattribute__")) = false := by cases expr <;> rfl
  have hx2 : (Value.builtin "BaseException.__getattribute__" == Value.builtin "object.__getattribute__") = false := by decide +kernel
  have hx1 : (onTheHeap (Value.ref C) && Value.builtin "BaseException.__getattribute__" == Value.builtin "object.__getattribute__") = false := by rw [hx2]; rfl
  unfold getAttr getAttrBy
  repeat (any_goals (first | assumption | (with_reducible refine wpAny_loadPart_at hx ?_; rw [hc]) | (with_reducible refine wpAny_typeLookup_exc hC hn FB.mro FB.ga.lookup ?_; rw [hng]) | (with_reducible refine wpAny_typeLookup_exc hC hn FB.mro FB.noGetattr ?_; rw [hnh]) | wp_step))
  refine codeAny_call_builtin FB.ga.plain F.entry_bexc_ga (wpAny_check_ga_own FB hC .base hx hc (ga_entry hC hn hna hB hx hc hnc hdx hns hv ?_))
  repeat (any_goals (first | assumption | wp_step))
end

section
variable {prog : Program} {w : World} {A : Around} {E : Value → Shared → Prop} {R : Result → Shared → Prop} {s : Shared} {env : Env}

theorem cde_nga {h : Heap} (B : Base (KK w) h) : h.nsMap 48 (Str.ofString "__getattribute__") = none := cde_none B (by kernel_rfl)
theorem cde_ngb {h : Heap} (B : Base (KK w) h) : h.nsMap 48 (Str.ofString "__getattr__") = none := cde_none B (by kernel_rfl)
/-- refused.cycles, refused.edges -/
theorem cde_attr {x : Str} {pos apos : Pos} {name : Str} {e D a T : Addr} {fl : Value} {Q : Value → Shared → Prop} {bs : List (Str × Value)} {mA : Str → Option Value} (B : Base (KK w) s.heap) (l : Loc s.heap env.locals bs) (hb : bs.lookup x = some (.ref e))
    (hx : ExcAt s.heap e (.ref 49) (some D) T fl) (hns : s.heap.Ns1 D mA) (hv : mA name = some (.ref a)) (h : ∀ tk, Q (.ref a) { s with toks := tk })
    (hna : ∀ h, Base (KK w) h → h.nsMap 48 name = none) (hB : typeLookup (.type "Exception") name = pure none)
    (hk : env.scope.kind = .function := by rfl) (hl : env.kindOf x = some .local := by rfl) (hd : (x == ("__debug__" : Str)) = false := by decide)
    (hbase : attributeBase (.Name x pos) name env (eval (.Name x pos) env) = eval (.Name x pos) env := by rfl) :
    wpAny (model prog w) A (eval (.Attribute (.Name x pos) name apos) env) Q E s := by
  obtain ⟨oe, vs, oT, ts, he, hcl, hdc, hdt, h1, h2, hTe, hT, hdT, h3⟩ := hx
  obtain ⟨nm, q, bs', sn, sub, ab, col, dd, k0, k1, k2, k3, k5, hC⟩ := cde_class B
  rw [arm_eval_Attribute, hbase]
  refine wpAny_bind (ldL l hb ?_ hk hl hd)
  refine wpAny_bind (wpAny_standAt (wpAny_bind (wpAny_holding ?_)))
  obtain ⟨hp, g, d, t, os⟩ := s
  refine ga_attr hC (cde_ns B) (cde_nga B) (cde_ngb B) (hna _ B) hB he hcl (by rw [hdt]; exact fun _ q => nomatch q) hdc hns hv ?_
  refine wpAny_bind (m := letTemporaryGo _ _ _) (wpAny_pure (wpAny_pure (h _)))
theorem cde_ncy (h : Heap) (B : Base (KK w) h) : h.nsMap 48 (Str.ofString "cycles") = none := cde_none B (by kernel_rfl)
theorem cde_ned (h : Heap) (B : Base (KK w) h) : h.nsMap 48 (Str.ofString "edges") = none := cde_none B (by kernel_rfl)
end
end Mine
end

section
open PySem PySem.W PySem.Calls PyProof.Rows
set_option Elab.async false
set_option maxRecDepth 100000
namespace Mine

/-- lists of ints at places -/
def Lays (h : Heap) : List Addr → List (List Int) → Prop
  | [], [] => True
  | a :: as, l :: ls => IL h a l ∧ Lays h as ls
  | _, _ => False
theorem Lays.length {h : Heap} : ∀ {as : List Addr} {ls : List (List Int)}, Lays h as ls → as.length = ls.length
  | [], [], _ => rfl
  | _ :: _, _ :: _, h => by rw [List.length_cons, List.length_cons, Lays.length h.2]
  | [], _ :: _, h => h.elim
  | _ :: _, [], h => h.elim
theorem Lays.mem {h : Heap} {a : Addr} : ∀ {as : List Addr} {ls : List (List Int)}, Lays h as ls → a ∈ as → ∃ l, l ∈ ls ∧ IL h a l
  | [], [], _, ha => absurd ha List.not_mem_nil
  | _ :: _, l :: _, h, ha => by
    rcases List.mem_cons.mp ha with rfl | ha
    · exact ⟨l, .head _, h.1⟩
    · obtain ⟨l, hl, x⟩ := Lays.mem h.2 ha
      exact ⟨l, .tail _ hl, x⟩
  | [], _ :: _, h, _ => h.elim
  | _ :: _, [], h, _ => h.elim
theorem Lays.at {h h' : Heap} {xs : List Addr} : ∀ {as : List Addr} {ls : List (List Int)}, Lays h as ls → Upto xs h h' → (∀ a, a ∈ as → a ∉ xs) → Lays h' as ls
  | [], [], _, _, _ => trivial
  | [], _ :: _, h, _, _ => h.elim
  | _ :: _, [], h, _, _ => h.elim
  | _ :: _, _ :: _, h, u, k => ⟨h.1.at u (k _ (.head _)), Lays.at h.2 u fun r hr => k r (.tail _ hr)⟩
theorem Lays.snoc {h : Heap} {a : Addr} {l : List Int} : ∀ {as : List Addr} {ls : List (List Int)}, Lays h as ls → IL h a l → Lays h (as ++ [a]) (ls ++ [l])
  | [], [], _, t => ⟨t, trivial⟩
  | [], _ :: _, h, _ => h.elim
  | _ :: _, [], h, _ => h.elim
  | _ :: _, _ :: _, h, t => ⟨h.1, Lays.snoc h.2 t⟩

/-- the turn at which nothing is ready -/
def Lay (ps : List (Int × Int)) (T0 : List Int) (k : Nat) : Prop := (∀ i, i < k → ready ps (todoAt ps T0 i) ≠ []) ∧ ready ps (todoAt ps T0 k) = []
def layersTo (ps : List (Int × Int)) (T0 : List Int) (k : Nat) : List (List Int) := (List.range k).map fun i => ready ps (todoAt ps T0 i)
theorem layersTo_succ {ps : List (Int × Int)} {T0 : List Int} {k : Nat} : layersTo ps T0 (k + 1) = layersTo ps T0 k ++ [ready ps (todoAt ps T0 k)] := by
  unfold layersTo; rw [List.range_succ, List.map_append]; rfl
theorem Lay.unique {ps : List (Int × Int)} {T0 : List Int} {k j : Nat} (x : Lay ps T0 k) (y : Lay ps T0 j) : k = j := by
  rcases Nat.lt_trichotomy k j with h | h | h
  · exact absurd x.2 (y.1 k h)
  · exact h
  · exact absurd y.2 (x.1 j h)
theorem ready_congr {ps ps' : List (Int × Int)} (h : ∀ p, p ∈ ps ↔ p ∈ ps') (T : List Int) : ready ps T = ready ps' T := by
  unfold ready
  refine List.filter_congr fun n _ => ?_
  rw [decide_eq_decide]
  exact ⟨fun q t ht e => q t ht ((h _).mpr e), fun q t ht e => q t ht ((h _).mp e)⟩
theorem rest_congr {ps ps' : List (Int × Int)} (h : ∀ p, p ∈ ps ↔ p ∈ ps') (T : List Int) : rest ps T = rest ps' T := by
  unfold rest; rw [ready_congr h]
theorem todoAt_congr {ps ps' : List (Int × Int)} (h : ∀ p, p ∈ ps ↔ p ∈ ps') (T : List Int) : ∀ k, todoAt ps T k = todoAt ps' T k
  | 0 => rfl
  | k + 1 => by show rest ps _ = rest ps' _; rw [todoAt_congr h T k, rest_congr h]
theorem layersTo_congr {ps ps' : List (Int × Int)} (h : ∀ p, p ∈ ps ↔ p ∈ ps') (T : List Int) (k : Nat) : layersTo ps T k = layersTo ps' T k := by
  unfold layersTo
  refine List.map_congr_left fun i _ => ?_
  rw [todoAt_congr h, ready_congr h]
theorem Lay.congr {ps ps' : List (Int × Int)} {T : List Int} {k : Nat} (h : ∀ p, p ∈ ps ↔ p ∈ ps') (x : Lay ps T k) : Lay ps' T k := by
  refine ⟨fun i hi => ?_, ?_⟩
  · rw [← todoAt_congr h, ← ready_congr h]; exact x.1 i hi
  · rw [← todoAt_congr h, ← ready_congr h]; exact x.2

theorem push_set (g : Array GenState) (a b : GenState) : (g.push a).setIfInBounds g.size b = g.push b := by
  apply Array.ext_getElem?
  intro i
  rw [Array.getElem?_setIfInBounds, Array.getElem?_push, Array.getElem?_push, Array.size_push]
  split
  · rename_i h; subst h; simp
  · rename_i h
    rw [if_neg (fun q => h q.symm), if_neg (fun q => h q.symm)]
theorem push_get (g : Array GenState) (a : GenState) : (g.push a)[g.size]? = some a := Array.getElem?_push_size ..

theorem setGen2 (s : Shared) (h h' : Heap) (tk tk' : Nat) (a b c : GenState) :
    ({ (({ s with heap := h, toks := tk, gens := s.gens.push a } : Shared).setGen s.gens.size b) with heap := h', toks := tk' } : Shared).setGen s.gens.size c = { s with heap := h', toks := tk', gens := s.gens.push c } := by
  show ({ s with heap := h', toks := tk', gens := ((s.gens.push a).setIfInBounds s.gens.size b).setIfInBounds s.gens.size c } : Shared) = _
  rw [push_set, push_set]
theorem Lays.keep {h h' : Heap} : ∀ {as : List Addr} {ls : List (List Int)}, Lays h as ls → (∀ b vs n, b ∈ as → h.get? b = some (seqObj "list" vs n) → h'.get? b = some (seqObj "list" vs n)) → Lays h' as ls
  | [], [], _, _ => trivial
  | [], _ :: _, h, _ => h.elim
  | _ :: _, [], h, _ => h.elim
  | _ :: _, _ :: _, ⟨⟨vs, ⟨n, p⟩, i⟩, r⟩, k => ⟨⟨vs, ⟨n, k _ _ _ (.head _) p⟩, i⟩, Lays.keep r fun b vs n hb => k b vs n (.tail _ hb)⟩
theorem ExcAt.at {h h' : Heap} {e T : Addr} {cls fl : Value} {dct : Option Addr} {xs : List Addr} (x : ExcAt h e cls dct T fl) (u : Upto xs h h') (k : ∀ b o, b ∈ xs → h.get? b = some o → ∀ vs, o.data ≠ .fields vs) : ExcAt h' e cls dct T fl := by
  obtain ⟨oe, vs, oT, ts, he, h1, h2, hd, h3, h4, h5, hT, hdT, h6⟩ := x
  exact ⟨oe, vs, oT, ts, u.at he (fun q => k e oe q he _ hd), h1, h2, hd, h3, h4, h5, u.at hT (fun q => k T oT q hT _ hdT), hdT, h6⟩

section
variable {prog : Program} {w : World} {A : Around} {E : Value → Shared → Prop} {s : Shared} {env : Env}

/-- (e1, e2, e3) -/
theorem tuple3 {e1 e2 e3 : Expr} {x1} {pos : Pos} {Q : Value → Shared → Prop}
    (h : wpAny (model prog w) A (eval e1 env) (fun v1 s1 => wpAny (model prog w) A (eval e2 env) (fun v2 s2 => wpAny (model prog w) A (eval e3 env) (fun v3 s3 => Q (.ref s3.heap.objs.size) { s3 with heap := s3.heap.push { cls := .type "tuple", data := .seq #[v1, v2, v3] } }) E s2) E s1) E s)
    (hs : starEach [e1, e2, e3] env = [(false, eval e1 env), (false, eval e2 env), (false, eval e3 env)] := by rfl) : wpAny (model prog w) A (eval (.Tuple [e1, e2, e3] x1 pos) env) Q E s := by
  refine wpAny_Tuple_spliced ?_
  rw [hs]
  show wpAny _ _ (spliced [(false, eval e1 env), (false, eval e2 env), (false, eval e3 env)]) _ _ _
  refine spliced_cons (wpAny_mono h (fun v1 s1 h1 => spliced_cons (wpAny_mono h1 (fun v2 s2 h2 => spliced_cons (wpAny_mono h2 (fun v3 s3 h3 => spliced_nil ⟨by rw [sizeLine_eq]; exact Nat.le_of_ble_eq_true rfl, h3⟩) fun _ _ e => e)) fun _ _ e => e)) fun _ _ e => e)

theorem noStop_cde {e : Addr} {oe : Obj} (B : Base (KK w) s.heap) (he : s.heap.get? e = some oe) (hc : oe.cls = .ref 49) : NoStop (model prog w) s (.ref e) := by
  intro A Q E hQ
  obtain ⟨nm, q, bs, sn, sub, ab, col, dd, k0, k1, k2, k3, k5, hC⟩ := cde_class B
  have hcB : (Value.ref 49 :: [Value.type "Exception", .type "BaseException", .type "object"]).contains (.type "StopIteration") = false := by decide +kernel
  obtain ⟨hp, g, d, t, os⟩ := s
  unfold isInstance
  repeat (first | (with_reducible refine wpAny_loadPart_at he ?_; rw [hc]) | (with_reducible refine wpAny_isSubtype_exc hC ?_; rw [hcB]) | wp_step)
  exact hQ
end

/-- only records change, and the slots at S -/
def KX (S : List Addr) (h h' : Heap) : Prop := (∀ b o, b ∉ S → h.get? b = some o → (∀ vs, o.data ≠ .fields vs) → h'.get? b = some o) ∧ SlotsKept S h h'
theorem KX.refl (S : List Addr) (h : Heap) : KX S h h := ⟨fun _ _ _ e _ => e, .refl _ _⟩
theorem KX.trans {S : List Addr} {h1 h2 h3 : Heap} (x : KX S h1 h2) (y : KX S h2 h3) : KX S h1 h3 := ⟨fun b o hb e q => y.1 b o hb (x.1 b o hb e q) q, x.2.trans y.2⟩
theorem KX.of_nf {h h' : Heap} {l : List Env} (f : Frames h l) (k : KeepNF h h') : KX (framesAt l) h h' := ⟨fun b o _ e q => k b o e q, fun b hb o e => by
  obtain ⟨_, o', ho, hd⟩ := f.mem hb
  rw [ho] at e; cases e
  exact ⟨o.slots, k b _ ho hd⟩⟩
theorem Frames.kx {h h' : Heap} {l : List Env} (f : Frames h l) (k : KX (framesAt l) h h') : Frames h' l := f.slots k.2
theorem Loc.kx {h h' : Heap} {L : Addr} {bs : List (Str × Value)} {S : List Addr} (l : Loc h L bs) (k : KX S h h') : Loc h' L bs := by
  by_cases hL : L ∈ S
  · exact l.slots k.2 hL
  · obtain ⟨m, ⟨o, es, ep, ho, hd, r⟩, f⟩ := l
    exact ⟨m, ⟨o, es, ep, k.1 L o hL ho (by rw [hd]; exact fun _ q => nomatch q), hd, r⟩, f⟩
theorem PSet.kx {w : World} {G : Addr → Prop} {S : List Addr} {h h' : Heap} {a : Addr} {l : List (Int × Int)} (x : PSet w G h a l) (k : KX S h h') (ha : a ∉ S) (hG : ∀ b, b ∈ S → ¬ G b) : PSet w G h' a l := by
  obtain ⟨es, ep, t, ho, O⟩ := x
  refine ⟨es, ep, t, k.1 a _ ha ho (fun _ q => nomatch q), { O with ents := O.ents.at fun r p tp g => ⟨?_, g⟩ }⟩
  obtain ⟨o, n, t', u, ho', hc, hd⟩ := tp
  exact ⟨o, n, t', u, k.1 r o (fun q => hG r q g) ho' (by rw [hd]; exact fun _ q => nomatch q), hc, hd⟩
theorem ISet.kx {w : World} {c : Bool} {S : List Addr} {h h' : Heap} {a : Addr} {l : List Int} (x : ISet w c h a l) (k : KX S h h') (ha : a ∉ S) : ISet w c h' a l := by
  obtain ⟨es, ep, t, ho, O⟩ := x
  exact ⟨es, ep, t, k.1 a _ ha ho (fun _ q => nomatch q), O⟩
theorem IL.kx {S : List Addr} {h h' : Heap} {a : Addr} {l : List Int} (x : IL h a l) (k : KX S h h') (ha : a ∉ S) : IL h' a l := by
  obtain ⟨vs, ⟨n, p⟩, i⟩ := x
  exact ⟨vs, ⟨n, k.1 a _ ha p (fun _ q => nomatch q)⟩, i⟩
theorem PL.kx {S : List Addr} {h h' : Heap} {a : Addr} {vs : List Value} (x : PL h a vs) (k : KX S h h') (ha : a ∉ S) : PL h' a vs := by
  obtain ⟨n, p⟩ := x
  exact ⟨n, k.1 a _ ha p (fun _ q => nomatch q)⟩
theorem Lays.kx {S : List Addr} {h h' : Heap} : ∀ {as : List Addr} {ls : List (List Int)}, Lays h as ls → KX S h h' → (∀ a, a ∈ as → a ∉ S) → Lays h' as ls
  | [], [], _, _, _ => trivial
  | [], _ :: _, h, _, _ => h.elim
  | _ :: _, [], h, _, _ => h.elim
  | _ :: _, _ :: _, h, u, k => ⟨h.1.kx u (k _ (.head _)), Lays.kx h.2 u fun r hr => k r (.tail _ hr)⟩

section
variable {M : Model} {A : Around} {E : Value → Shared → Prop} {s : Shared} {h0 : Heap} {S : List Addr} {e : Addr} {cls : Value} {dct : Option Addr} {fl : Value} {env : Env} {outer : List Env} {L : Addr}

theorem Flies.note' {Q : Unit → Shared → Prop} (x : Flies S h0 s.heap e cls dct .none) (hfr : A.frames = some (env :: outer)) (hl : Frames s.heap (env :: outer)) (hf : env.frame = some L) (hS : framesAt (env :: outer) = S)
    (h : ∀ h', Flies S h0 h' e cls dct (rawInt L) → KX S s.heap h' → Q () { s with heap := h' }) : wpAny M A (noteFrame (.ref e) env) Q E s := by
  subst hS
  obtain ⟨u, k, he, T, hT, hx⟩ := x
  have hx0 := hx
  refine note_next hfr hl hf hx fun h' T' u' k' hT' hx' => h h' ⟨fun b o hb e1 => ?_, k.trans k', he, T', none_back u k hT', hx'⟩ ⟨fun b o hb e1 q => u' b o (fun z => ?_) e1, k'⟩
  · refine u' b o (fun q => ?_) (u b o hb e1)
    rcases List.mem_append.mp q with q | q
    · exact hb q
    · rcases List.mem_cons.mp q with rfl | q
      · rw [he] at e1; cases e1
      · rw [List.mem_singleton.mp q, hT] at e1; cases e1
  · obtain ⟨oe, vs, oT, ts, h1, _, _, hd, _, _, _, hT1, hdT, _⟩ := hx0
    rcases List.mem_append.mp z with z | z
    · exact hb z
    · rcases List.mem_cons.mp z with rfl | z
      · rw [h1] at e1; cases e1; exact q _ hd
      · rw [List.mem_singleton.mp z, hT1] at e1; cases e1; exact q _ hdT
theorem Flies.flightK {l : List Env} {fr : Option Addr} {Q : Unit → Shared → Prop} (x : Flies S h0 s.heap e cls dct fl) (hl : Frames s.heap l) (hS : framesAt l = S)
    (h : ∀ h', Flies S h0 h' e cls dct (fr.elim Value.none fun f => rawInt f) → KX S s.heap h' → Q () { s with heap := h' }) : wpAny M A (setFlight (.ref e) fr) Q E s :=
  x.flight' fun h' y k => h h' y (hS ▸ KX.of_nf hl k)
theorem Flies.quiet {Ar : Around} (x : Flies S h0 s.heap e cls dct fl) (hh : Ar.handled = some (.ref e)) : Quiet Ar s.heap := by
  obtain ⟨_, _, _, T, _, oe, vs, _, _, he, _, _, hd, _, h2, _⟩ := x
  exact .inr ⟨e, oe, vs, hh, he, hd, h2⟩
end
end Mine
end

section
open PySem PySem.W PySem.Calls PyProof.Rows
set_option Elab.async false
set_option maxRecDepth 100000
namespace Mine

/-- what the refusal told -/
def Refused (h : Heap) (ps : List (Int × Int)) (v1 v2 : Value) : Prop := ∃ rc rd vs ns rs ps', v1 = .ref rc ∧ v2 = .ref rd ∧ h.IsList rc (List.toArray vs) ∧ IntsAre vs ns ∧ ns.Pairwise (· < ·) ∧ (∀ n, n ∈ ns ↔ Path (fOf ps) n n) ∧
  h.IsList rd (List.map Value.ref rs).toArray ∧ Tups h rs ps' ∧ (ps'.map code).Pairwise (· < ·) ∧ (∀ p, p ∈ ps' ↔ p ∈ ps)
def Walked (h : Heap) (r : Addr) (ps : List (Int × Int)) (T0 : List Int) : Prop := ∃ t as k v1 v2, h.IsTuple r #[.ref t, v1, v2] ∧ PL h t (List.map Value.ref as) ∧ Lays h as (layersTo ps T0 k) ∧ Lay ps T0 k ∧
  ((todoAt ps T0 k = [] ∧ v1 = .none ∧ v2 = .none) ∨ (todoAt ps T0 k ≠ [] ∧ Refused h ps v1 v2))

section
variable {prog : Program} {w : World} {A : Around} {E : Value → Shared → Prop} {R : Result → Shared → Prop} {s : Shared}

theorem handle_cde {env : Env} {e : Addr} {t : Expr} {n : Str} {b₀ : Stmt} {suite : List Stmt} {pos : Pos} {rest : List ExceptHandler} {Q : Flow → Shared → Prop}
    (h : wpAny (model prog w) (A.mark (some (.ref e))) (eval t env) (fun c s₁ => c = .ref 49 ∧ Base (KK w) s₁.heap ∧ (∃ oe, s₁.heap.get? e = some oe ∧ oe.cls = .ref 49) ∧
      wpAny (model prog w) (A.mark (some (.ref e))) (setFlight (.ref e) none) (fun _ s₂ =>
          wpAny (model prog w) (A.mark (some (.ref e))) (storeName env n (.ref e)) (fun _ s₃ =>
            wpAny (model prog w) (A.mark (some (.ref e))) (execs (b₀ :: suite) env)
              (fun f s₄ => wpAny (model prog w) A (do bindName env n .none; unbindBehindTheSuite env n pos) (fun _ s₅ => Q f s₅) E s₄)
              (fun _ _ => False) s₃) (fun _ _ => False) s₂) (fun _ _ => False) s₁) (fun _ _ => False) s) :
    wpAny (model prog w) A (handleBy (.ref e) env (.ExceptHandler (some t) (some n) (b₀ :: suite) pos :: rest)) Q E s := by
  refine wpAny_handleBy_cons (codeAny_handlers_test (wpAny_mono h (fun c s₁ h₁ => ?_) fun _ _ y => y.elim)) (by intro q; cases q)
  obtain ⟨rfl, B, ⟨oe, he, hcls⟩, hk⟩ := h₁
  obtain ⟨nm, q, bs, sn, sub, ab, col, dd, k0, k1, k2, k3, k5, hC⟩ := cde_class B
  obtain ⟨hh, g, d, tk, os⟩ := s₁
  refine wpAny_excMatches_sub_self hC he hcls (by decide +kernel) (codeAny_handlers_suite_as (wpAny_mono hk (fun _ _ q => wpAny_mono q (fun _ _ q => wpAny_mono q (fun _ _ q => q) fun _ _ q => q.elim) fun _ _ q => q.elim) fun _ _ q => q.elim))

set_option maxHeartbeats 4000000 in
theorem law_walk {X Z : Addr} {ps : List (Int × Int)} {T0 : List Int} {outer : List Env} {hb : Heap} (Bb : Base (KK w) hb) (B : Base (KK w) s.heap) (hh : A.handled = none) (hroom : A.depth + 20 < recursionLimit) (hu : A.units + 120 < cLine)
    (hfr : A.frames = some outer) (hF : Frames s.heap outer) (hFb : ∀ b, b ∈ framesAt outer → hb.get? b = none) (SX : Src w s.heap X ps) (IZ : IL s.heap Z T0)
    (hs : ∀ p, p ∈ ps → Small p) (hps12 : ∀ l : List (Int × Int), l.Nodup → (∀ p, p ∈ l → p ∈ ps) → l.length ≤ 12) (hsix : ∀ n, n ∈ T0 → n ∈ six) (hlen : T0.length ≤ 6)
    (h : ∀ h' tk r, Upto (framesAt outer) s.heap h' → SlotsKept (framesAt outer) s.heap h' → s.heap.get? r = none → Walked h' r ps T0 → R (.ok (.ret (.ref r))) { s with heap := h', toks := tk, gens := s.gens.push .finished }) :
    codeAny (model prog w) A (.call (.ref 91) ⟨[.ref X, .ref Z], []⟩) R s := by
  refine call_fn B (a := 91) (o := _) rfl rfl (by kernel_rfl) (by omega) rfl (binds := [(Str.ofString "tuples", .ref X), (Str.ofString "things", .ref Z)]) (by rfl) rfl (fun n => by rfl) ?_
  intro h1 tk U1 hns c1 c2
  clear c1 c2
  have l1 : Loc h1 s.heap.objs.size [(Str.ofString "tuples", .ref X), (Str.ofString "things", .ref Z)] := Loc.of hns (List.forall_mem_cons.mpr ⟨rfl, List.forall_mem_cons.mpr ⟨rfl, fun _ h => nomatch h⟩⟩)
  clear hns
  generalize hA : A.deeper _ = A'
  have hh' : A'.handled = none := by rw [← hA]; exact hh
  have hu' : A'.units + 117 < cLine := by rw [← hA]; show A.units + 3 + 117 < cLine; omega
  have hr' : A'.depth + 19 < recursionLimit := by rw [← hA]; show A.depth + 1 + 19 < recursionLimit; omega
  have hfr' : ∀ env, A.deeper env = A' → A'.frames = some (env :: outer) := fun env q => by rw [← q]; show A.frames.map _ = _; rw [hfr]; rfl
  generalize hL : s.heap.objs.size = L at l1 ⊢ hA
  have fL : s.heap.get? L = none := by rw [← hL]; exact get_none_size
  -- told = []
  refine wpAny_execs_cons (wpAny_Assign_Name (emptyList ?_))
  dsimp only
  generalize ht0 : h1.objs.size = t
  generalize h2e : h1.push (seqObj "list" #[] 0) = h2
  have ft : h1.get? t = none := by rw [← ht0]; exact get_none_size
  have u12 : Upto [] h1 h2 := by rw [← h2e]; exact Upto.push _
  have p2 : PL h2 t [] := by rw [← h2e, ← ht0]; exact ⟨0, Heap.get?_push_size _ rfl⟩
  have neTL : t ≠ L := (l1.at u12 (by simp)).ne_pl p2
  refine stL (l1.at u12 (by simp)) fun h3 l3 sb3 => ?_
  dsimp only
  replace l3 : Loc h3 L _ := l3
  have u23 : Upto [L] h2 h3 := Upto.same sb3 (.head _)
  have u13 : Upto [L] h1 h3 := (u12.mono (by simp)).trans u23
  have p3 : PL h3 t [] := p2.at u23 (by simpa using neTL)
  have u03 : Upto [] s.heap h3 := fun b o _ e => u13 b o (by simpa using ne_of_none e fL) (U1 b o (by simp) e)
  have ft0 : s.heap.get? t = none := none_of U1 ft
  have base3 : Base (KK w) h3 := B.keeps fun b o e => u03 b o (by simp) e
  have SX3 : Src w h3 X ps := SX.at u03 (by simp) fun _ _ _ => by simp
  have IZ3 : IL h3 Z T0 := IZ.at u03 (by simp)
  have hX3 : ∃ o, h3.get? X = some o := let ⟨o, ho, _⟩ := SX3.get; ⟨o, ho⟩
  have hZ3 : ∃ o, h3.get? Z = some o := let ⟨o, ho, _⟩ := IZ3.get; ⟨o, ho⟩
  -- try: for layer in sort_as_subsets(tuples, things)
  refine wpAny_execs_cons (wpAny_Try_except ?_)
  refine wpAny_execs_cons (wpAny_For (callU2 (ldG base3 g_subsets ⟨rfl, ldL l3 rfl (ldL l3 rfl ⟨⟨_, base3.1 57 _ rfl, rfl⟩, wpAny_call (sas_call base3 (by omega) hs hps12 hsix hlen hX3 hZ3 fun h4 tk4 g gs u34 fg hg hGo => ?_)⟩)⟩)))
  dsimp only at u34 fg hg hGo ⊢
  refine wpAny_pyIter_gen hg ?_
  obtain ⟨oL3, esL3, epL3, hoL3, hdL3⟩ := l3.get
  obtain ⟨ot3, hot3, hct3⟩ := p3.get
  have FRe : ∀ env, A.deeper env = A' → env.scope.kind ≠ .module → env.frame = some L → ∀ h bs, Loc h L bs → Frames h outer → Frames h (env :: outer) :=
    fun env _ q1 q2 h bs l f => ⟨q1, ⟨L, _, q2, noHeap_get _, l.get.choose_spec.choose_spec.choose_spec.1, fun vs q => by rw [l.get.choose_spec.choose_spec.choose_spec.2] at q; cases q⟩, f⟩
  obtain ⟨outer2, hfr2, hSe, FR⟩ : ∃ outer2, A'.frames = some outer2 ∧ framesAt outer2 = L :: framesAt outer ∧ ∀ h bs, Loc h L bs → Frames h outer → Frames h outer2 := by
    refine ⟨_, hfr' _ hA, rfl, fun h bs l f => ?_⟩
    exact FRe _ hA (fun q => nomatch (show ScopeKind.function = ScopeKind.module from q)) rfl h bs l f
  have hS3 : ∀ b, b ∈ framesAt outer2 → ∃ o, h3.get? b = some o := fun b hb => by
    rw [hSe] at hb
    rcases List.mem_cons.mp hb with rfl | hb
    · exact ⟨_, hoL3⟩
    · obtain ⟨_, o, ho, _⟩ := hF.mem hb
      exact ⟨o, u03.at ho (by simp)⟩
  have hXn : X ∉ [L, t] := by
    obtain ⟨o, ho, _⟩ := SX.get
    simp only [List.mem_cons, List.not_mem_nil, or_false, not_or]
    exact ⟨ne_of_none ho fL, ne_of_none ho ft0⟩
  have hZn : Z ∉ [L, t] := by
    obtain ⟨o, ho, _⟩ := IZ.get
    simp only [List.mem_cons, List.not_mem_nil, or_false, not_or]
    exact ⟨ne_of_none ho fL, ne_of_none ho ft0⟩
  have hLt : ∀ b, b ∈ [L, t] → s.heap.get? b = none := fun b hb => by
    rcases List.mem_cons.mp hb with rfl | hb
    · exact fL
    · rw [List.mem_singleton.mp hb]; exact ft0
  have res : ∀ h6 h8 bs, Upto [L, t] h3 h8 → GKeep h3 h6 h8 → Loc h8 L bs → (∃ o, h8.get? t = some o) → Resum w h3 X Z ps T0 outer2 h6 h8 := fun h6 h8 bs u k l ht => by
    have u0 : Upto [] s.heap h8 := fun b o _ e => u b o (fun q => by rw [hLt b q] at e; cases e) (u03.at e (by simp))
    refine ⟨k, SX3.at u hXn fun r p tp => ?_, IZ3.at u hZn, B.move base3 u hLt, FR h8 bs l (hF.upto u0 (by simp)), fun b hb => ?_⟩
    · simp only [List.mem_cons, List.not_mem_nil, or_false, not_or]
      obtain ⟨o, ho, hc⟩ := tp.get
      exact ⟨l3.ne_tup tp, cls_ne ho hot3 (by rw [hc, hct3]; decide)⟩
    · cases q : h3.get? b with
      | none => rfl
      | some o =>
        by_cases z : b ∈ [L, t]
        · rcases List.mem_cons.mp z with rfl | z
          · obtain ⟨o, _, _, ho, _⟩ := l.get; rw [ho] at hb; cases hb
          · obtain ⟨o, ho⟩ := ht
            rw [List.mem_singleton.mp z, ho] at hb; cases hb
        · rw [u.at q z] at hb; cases hb
  have hGo' := fun s'' => hGo A'.in1 outer2 s'' hh' (by show A'.depth + 10 < recursionLimit; omega) (by show A'.units + 1 + 100 < cLine; omega) hfr2 hS3
  clear hGo
  refine codeAny_forLoop_any (fun n s' => ∃ h5 tk5 gs as hl, s' = { s with heap := h5, toks := tk5, gens := s.gens.push gs } ∧ n ≤ T0.length ∧ Loc h5 L [(Str.ofString "told", .ref t), (Str.ofString "tuples", .ref X), (Str.ofString "things", .ref Z)] ∧ h5.IsGen g s.gens.size ∧
    PL h5 t (List.map Value.ref as) ∧ Lays h5 as (layersTo ps T0 (T0.length - n)) ∧ (∀ i, i < T0.length - n → ready ps (todoAt ps T0 i) ≠ []) ∧ Upto [L, t] h3 h5 ∧ (∀ a, a ∈ as → h3.get? a = none) ∧ Resum w h3 X Z ps T0 outer2 hl h5 ∧
    (∀ s'', Resum w h3 X Z ps T0 outer2 hl s''.heap → gs.Goes (model prog w) A'.in1 (GR w h3 ps T0 outer2) (GY w h3 X Z ps T0 outer2) n (.send .none) s'')) (fun n s' hI => ?_) T0.length
    ⟨h4, tk4, gs, [], h4, rfl, Nat.le_refl _, l3.at u34 (by simp), hg, p3.at u34 (by simp), by rw [Nat.sub_self]; trivial, fun i hi => by omega, u34.mono (by simp), fun _ h => absurd h List.not_mem_nil, res h4 h4 _ (u34.mono (by simp)) (fun _ _ _ e => e) (l3.at u34 (by simp)) ⟨_, u34.at hot3 (by simp)⟩, hGo'⟩
  clear hGo' hg
  obtain ⟨h5, tk5, gs, as, hl, rfl, hn, l5, hg5, p5, L5, hrd, u35, has, R5, hGo5⟩ := hI
  have fg0 : g ∉ [L, t] := by
    simp only [List.mem_cons, List.not_mem_nil, or_false, not_or]
    exact ⟨(ne_of_none hoL3 fg).symm, (ne_of_none hot3 fg).symm⟩
  refine next_gen (A := A') hh' R5.base.nolimit (by omega) hg5 (push_get _ _) (hGo5 _ R5) (fun v s1 gs' hv => ?_) (fun r s1 hr => ?_)
  · obtain ⟨out, h6, tk6, rfl, rfl, FR6, IL6, ne6, le6, no6, nc6, hk6⟩ := hv
    have k56 : ∀ b o, h5.get? b = some o → (h3.get? b ≠ none ∨ Seqish o) → h6.get? b = some o := fun b o e q => FR6.1 b o (by simp) e q
    have u36 : Upto [L, t] h3 h6 := fun b o hb e => k56 b o (u35.at e hb) (.inl (by rw [e]; exact fun q => nomatch q))
    have l6 : Loc h6 L [(Str.ofString "told", .ref t), (Str.ofString "tuples", .ref X), (Str.ofString "things", .ref Z)] := by
      obtain ⟨m, ⟨o, es, ep, ho, rr⟩, ff⟩ := l5
      exact ⟨m, ⟨o, es, ep, k56 L o ho (.inl (by rw [hoL3]; exact fun q => nomatch q)), rr⟩, ff⟩
    have p6 : PL h6 t (List.map Value.ref as) := by
      obtain ⟨n, p⟩ := p5
      exact ⟨n, k56 t _ p (.inl (by rw [hot3]; exact fun q => nomatch q))⟩
    have L6 := L5.keep (h' := h6) fun b vs n _ e => k56 b _ e (.inr (.inl ⟨_, _, rfl⟩))
    have hg6 : h6.IsGen g s.gens.size := by
      obtain ⟨o, nm, qn, ho, c, hd, sl⟩ := hg5
      exact ⟨o, nm, qn, k56 g o ho (.inr (.inr ⟨_, hd⟩)), c, hd, sl⟩
    cases n with
    | zero => exact (hk6 { s with heap := h6 } (res h6 h6 _ u36 (fun _ _ _ e => e) l6 ⟨_, p6.get.choose_spec.1⟩)).elim
    | succ m =>
      rw [setGen2]
      have hke : T0.length - m = T0.length - (m + 1) + 1 := by omega
      have hgen := hk6
      replace IL6 : IL h6 out (ready ps (todoAt ps T0 (T0.length - (m + 1)))) := IL6
      replace ne6 : ready ps (todoAt ps T0 (T0.length - (m + 1))) ≠ [] := ne6
      obtain ⟨oL5, _, _, hoL5, _⟩ := l5.get
      obtain ⟨ot5, hot5, _⟩ := p5.get
      have hoL : out ≠ L := (ne_of_none hoL5 no6).symm
      have hot : out ≠ t := (ne_of_none hot5 no6).symm
      have haL : as.length ≤ 6 := by rw [L6.length]; simp only [layersTo, List.length_map, List.length_range]; omega
      have hrl : (ready ps (todoAt ps T0 (T0.length - (m + 1)))).length ≤ 6 := Nat.le_trans (List.length_filter_le ..) (Nat.le_trans (todoAt_len _) hlen)
      show wpAny _ _ (letOwnedTupleGo _ _ _) _ _ _
      refine letOwn_name (wpAny_assign_Name (stL l6 fun h7 l7 sb7 => ?_))
      replace l7 : Loc h7 L _ := l7
      have u67 : Upto [L] h6 h7 := Upto.same sb7 (.head _)
      have p7 := p6.at u67 (by simpa using neTL)
      have IL7 := IL6.at u67 (by simpa using hoL)
      have L7 := L6.at u67 fun a ha => by simpa using (ne_of_none hoL3 (has a ha)).symm
      have u37 : Upto [L, t] h3 h7 := u36.trans (u67.mono (by simp))
      refine wpAny_execs_cons (wpAny_Expr (append_pl (ldL l7 rfl ⟨t, _, rfl, p7, by rw [List.length_map]; omega, callT1 (T := "list") (ldB (B.move base3 u37 hLt) g_list b_list (by decide) ⟨rfl, ldL l7 rfl (call_list_il hh' IL7 (by omega) fun h8 tk8 r8 u78 fr8 IL8 => ⟨p7.at u78 (by simp), fun h9 p9 sb9 => wpAny_execs_nil ?_⟩)⟩)⟩)))
      dsimp only at u78 fr8 IL8 sb9
      have u89 : Upto [t] h8 h9 := Upto.same sb9 (.head _)
      have u69 : Upto [L, t] h6 h9 := (u67.mono (by simp)).trans ((u78.mono (by simp)).trans (u89.mono (by simp)))
      have l9 := (l7.at u78 (by simp)).at u89 (by simpa using neTL.symm)
      have hr8L : r8 ≠ L := by obtain ⟨o, _, _, ho, _⟩ := l7.get; exact (ne_of_none ho fr8).symm
      have hr8t : r8 ≠ t := by obtain ⟨o, ho, _⟩ := p7.get; exact (ne_of_none ho fr8).symm
      refine ⟨m, Nat.lt_succ_self m, h9, _, gs', as ++ [r8], h6, rfl, by omega, l9.pick ⟨rfl, rfl, rfl, trivial⟩, ?_, by rw [List.map_append]; exact p9, ?_, fun i hi => ?_, u36.trans u69, fun a ha => ?_, res h6 h9 _ (u36.trans u69) (fun b o hb e => u69 b o (fun q => ?_) e) l9 ⟨_, p9.get.choose_spec.1⟩, fun s'' r => hgen s'' r⟩
      · obtain ⟨o, nm, qn, ho, rr⟩ := hg6
        exact ⟨o, nm, qn, u69.at ho fg0, rr⟩
      · rw [hke, layersTo_succ]
        exact ((L7.at u78 (by simp)).at u89 fun a ha => by simpa using (ne_of_none hot3 (has a ha)).symm).snoc (IL8.at u89 (by simpa using hr8t))
      · rcases Nat.lt_or_ge i (T0.length - (m + 1)) with z | z
        · exact hrd i z
        · rw [show i = T0.length - (m + 1) by omega]; exact ne6
      · rcases List.mem_append.mp ha with z | z
        · exact has a z
        · rw [List.mem_singleton.mp z]
          cases q : h3.get? r8 with
          | none => rfl
          | some o =>
            have := u37.at q (by simp [hr8L, hr8t])
            rw [fr8] at this; cases this
      · rcases List.mem_cons.mp q with rfl | q
        · rw [hoL3] at hb; cases hb
        · rw [List.mem_singleton.mp q, hot3] at hb; cases hb
  · rcases hr with ⟨e1, rfl, h6, tk6, rfl, FR6⟩ | ⟨ne, er, e, h6, tk6, rfl, rfl, FR6, RF⟩
    · refine .inl ⟨rfl, fun h7 u67 => ?_⟩
      change wpAny _ _ (execs [] _) _ _ ({ s with heap := h7, toks := tk6, gens := ((s.gens.push gs).setIfInBounds s.gens.size .running).setIfInBounds s.gens.size .finished } : Shared)
      rw [push_set, push_set]
      have k57 : ∀ b o, h5.get? b = some o → (h3.get? b ≠ none ∨ Seqish o) → h7.get? b = some o := fun b o e q => u67.at (FR6.1 b o (by simp) e q) (by simp)
      have u37 : Upto [L, t] h3 h7 := fun b o hb e => k57 b o (u35.at e hb) (.inl (by rw [e]; exact fun q => nomatch q))
      have l7 : Loc h7 L [(Str.ofString "told", .ref t)] := by
        obtain ⟨m, ⟨o, es, ep, ho, rr⟩, ff⟩ := l5.pick (r := [(Str.ofString "told", .ref t)]) ⟨rfl, trivial⟩
        exact ⟨m, ⟨o, es, ep, k57 L o ho (.inl (by rw [hoL3]; exact fun q => nomatch q)), rr⟩, ff⟩
      have p7 : PL h7 t (List.map Value.ref as) := by
        obtain ⟨n, p⟩ := p5
        exact ⟨n, k57 t _ p (.inl (by rw [hot3]; exact fun q => nomatch q))⟩
      have L7 := L5.keep (h' := h7) fun b vs n _ e => k57 b _ e (.inr (.inl ⟨_, _, rfl⟩))
      refine wpAny_execs_nil ?_
      dsimp only
      refine wpAny_execs_nil ?_
      dsimp only
      refine wpAny_execs_nil ?_
      dsimp only
      refine wpAny_execs_cons (wpAny_Return_some (tuple3 (ldL l7 rfl (Constant_none (Constant_none ?_)))))
      dsimp only
      have u0 : Upto [] s.heap h7 := fun b o _ e => u37 b o (fun q => by rw [hLt b q] at e; cases e) (u03.at e (by simp))
      have uP := Upto.push (xs := []) (h := h7) { cls := .type "tuple", data := .seq #[.ref t, .none, .none] }
      refine h _ _ h7.objs.size ((u0.trans uP).mono (by simp)) (.of_upto (u0.trans uP) (by simp)) (none_of u0 get_none_size) ⟨t, as, T0.length - n, .none, .none, ⟨_, Heap.get?_push_size _ rfl, rfl, _, rfl⟩, p7.at uP (by simp), L7.at uP (by simp), ⟨hrd, ?_⟩, .inl ⟨e1, rfl, rfl⟩⟩
      rw [e1]; rfl
    · have k56 : ∀ b o, b ∉ framesAt outer2 → h5.get? b = some o → (h3.get? b ≠ none ∨ Seqish o) → h6.get? b = some o := fun b o hb e q => FR6.1 b o hb e q
      have u05 : Upto [] s.heap h5 := fun b o _ e => u35 b o (fun q => by rw [hLt b q] at e; cases e) (u03.at e (by simp))
      have u06 : Upto (framesAt outer) s.heap h6 := fun b o hb e => by
        refine k56 b o (fun q => ?_) (u05.at e (by simp)) (.inl (by rw [u03.at e (by simp)]; exact fun q => nomatch q))
        rw [hSe] at q
        rcases List.mem_cons.mp q with rfl | q
        · rw [fL] at e; cases e
        · exact hb q
      have s06 : SlotsKept (framesAt outer2) s.heap h6 := fun b hb o e => FR6.2 b hb o (u05.at e (by simp))
      have base6 : Base (KK w) h6 := Bb.move B u06 hFb
      obtain ⟨hnew, D, cy, ed, O, le, fD, neD, ⟨T, fT, neT, x6⟩, nsD, fcy, fed, SO, hO, Se, hle⟩ := RF
      replace hnew : h5.get? e = none := hnew
      replace fT : h5.get? T = none := fT
      obtain ⟨oe, vse, oT, tse, he6, hcl6, hx6⟩ := id x6
      refine .inr ⟨.ref e, rfl, ?_, noStop_cde (s := Shared.setGen _ _ _) base6 he6 hcl6, ?_⟩
      · obtain ⟨o, nm, qn, ho, c, hd, sl⟩ := hg5
        refine ⟨o, nm, qn, k56 g o (fun q => ?_) ho (.inr (.inr ⟨_, hd⟩)), c, hd, sl⟩
        obtain ⟨o', ho'⟩ := hS3 g q
        rw [fg] at ho'; cases ho'
      rw [setGen2]
      have fl6 : Flies (framesAt outer2) s.heap h6 e (.ref 49) (some D) .none := ⟨u06.mono (by rw [hSe]; exact fun b hb => .tail _ hb), s06, none_of u05 hnew, T, none_of u05 fT, x6⟩
      clear hGo5
      have uo : ∀ h, Upto (framesAt outer2) s.heap h → Upto (framesAt outer) s.heap h := fun h u b o hb e => u b o (fun q => by
        rw [hSe] at q
        rcases List.mem_cons.mp q with rfl | q
        · rw [fL] at e; cases e
        · exact hb q) e
      have exS5 : ∀ b, b ∈ framesAt outer2 → ∃ o, h5.get? b = some o := fun b hb => let ⟨_, o, ho, _⟩ := R5.frames.mem hb; ⟨o, ho⟩
      have nS : ∀ b, h5.get? b = none → b ∉ framesAt outer2 := fun b hb q => by
        obtain ⟨o, ho⟩ := exS5 b q
        rw [hb] at ho; cases ho
      have hLS : L ∈ framesAt outer2 := by rw [hSe]; exact .head _
      have htS : t ∉ framesAt outer2 := fun q => by
        rw [hSe] at q
        rcases List.mem_cons.mp q with q | q
        · exact neTL q
        · obtain ⟨_, o, ho, _⟩ := hF.mem q
          rw [ft0] at ho; cases ho
      have haS : ∀ a, a ∈ as → a ∉ framesAt outer2 := fun a ha q => by
        obtain ⟨o, ho⟩ := hS3 a q
        rw [has a ha] at ho; cases ho
      have l6 := l5.slots FR6.2 hLS
      have F6o : Frames h6 outer := hF.slots fun b hb o e => s06 b (by rw [hSe]; exact .tail _ hb) o e
      have F6 := FR h6 _ l6 F6o
      have p6 : PL h6 t (List.map Value.ref as) := by
        obtain ⟨n, p⟩ := p5
        exact ⟨n, k56 t _ htS p (.inl (by rw [hot3]; exact fun q => nomatch q))⟩
      have L6 := L5.keep (h' := h6) fun b vs n hb e => k56 b _ (haS b hb) e (.inr (.inl ⟨_, _, rfl⟩))
      unfold notedBy
      refine fl6.note' (s := { s with heap := h6, toks := tk6, gens := s.gens.push .finished }) (hfr' _ hA) (FRe _ hA (fun q => nomatch (show ScopeKind.function = ScopeKind.module from q)) rfl h6 _ l6 F6o) rfl (by exact hSe.symm) fun h7 fl7 k67 => ?_
      dsimp only
      unfold cameBackBy
      have F7 := F6.kx k67
      refine wpAny_bind (fl7.field1 (s := { s with heap := h7, toks := tk6, gens := s.gens.push .finished }) fun T => ?_)
      rw [if_neg (show ¬ ((Value.ref T == Value.none) = true) from by simp)]
      refine fl7.flightK (s := { s with heap := h7, toks := tk6, gens := s.gens.push .finished }) F7 rfl fun h8 fl8 k78 => ?_
      have F8 := F7.kx k78
      refine fl8.again (s := { s with heap := h8, toks := tk6, gens := s.gens.push .finished }) rfl ?_
      refine fl8.flightK (s := { s with heap := h8, toks := tk6, gens := s.gens.push .finished }) F8 rfl fun h9 fl9 k89 => ?_
      have F9 := F8.kx k89
      have base9 : Base (KK w) h9 := Bb.move B (uo _ fl9.1) hFb
      obtain ⟨_, _, _, T9, fT9, x9⟩ := id fl9
      obtain ⟨oe9, _, _, _, he9, hcl9, _⟩ := id x9
      refine handle_cde (ldG base9 g_err ⟨rfl, base9, ⟨oe9, he9, hcl9⟩, fl9.flightK (s := { s with heap := h9, toks := tk6, gens := s.gens.push .finished }) F9 rfl fun h10 fl10 k910 => ?_⟩)
      have k10 : KX (framesAt outer2) h6 h10 := ((k67.trans k78).trans k89).trans k910
      have l10 := l6.kx k10
      have p10 := p6.kx k10 htS
      have L10 := L6.kx k10 haS
      have SO10 := SO.kx k10 (nS _ fcy)
      have Se10 := Se.kx k10 (nS _ fed) fun b hb g => nS b g hb
      have ns10 := nsD.at (h' := h10) fun o ho => k10.1 D o (nS _ fD) ho (by
        obtain ⟨o', es, ep, ho', hdo, _⟩ := nsD
        rw [ho'] at ho; cases ho
        rw [hdo]; exact fun _ q => nomatch q)
      obtain ⟨_, _, _, T10, fT10, x10⟩ := id fl10
      refine stL l10 fun h11 l11 sb11 => ?_
      dsimp only
      replace l11 : Loc h11 L _ := l11
      have u1011 : Upto [L] h10 h11 := Upto.same sb11 (.head _)
      obtain ⟨oL10, _, _, hoL10, hdL10⟩ := l10.get
      have neS : ∀ {b : Addr}, h5.get? b = none → b ≠ L := fun hb => (ne_of_none l5.get.choose_spec.choose_spec.choose_spec.1 hb).symm
      have x11 := x10.at u1011 fun b o hb e => by
        rw [List.mem_singleton.mp hb, hoL10] at e; cases e
        rw [hdL10]; exact fun _ q => nomatch q
      have ns11 := ns10.at (h' := h11) fun o ho => u1011.at ho (by simpa using neS fD)
      have SO11 := SO10.at u1011 (by simpa using neS fcy)
      have Se11 := Se10.at u1011 (by simpa using neS fed) fun b hb g => neS g (List.mem_singleton.mp hb)
      have p11 := p10.at u1011 (by simpa using neTL)
      have L11 := L10.at u1011 fun a ha => by simpa using (ne_of_none hoL3 (has a ha)).symm
      have u11 : Upto (framesAt outer) s.heap h11 := fun b o hb e => u1011 b o (by simpa using ne_of_none e fL) (uo _ fl10.1 b o hb e)
      have base11 : Base (KK w) h11 := Bb.move B u11 hFb
      have q10 : Quiet (A'.mark (some (.ref e))) h10 := fl10.quiet (s := { s with heap := h10 }) rfl
      have q11 : Quiet (A'.mark (some (.ref e))) h11 := by
        obtain ⟨oe, vs, _, _, he, _, _, hd, _, h2, _⟩ := x11
        exact .inr ⟨e, oe, vs, rfl, he, hd, h2⟩
      refine wpAny_execs_cons (wpAny_Return_some (tuple3 (ldL l11 rfl (callF1 (id := "sorted") (ldB base11 g_sorted b_sorted (by decide) ⟨rfl, cde_attr base11 l11 rfl x11 ns11 rfl (fun tk11 => sorted_iset q11 SO11 fun h12 tk12 rc vs ns u12 frc Lc Ic pc mc => ?_) cde_ncy noex_cycles⟩)))))
      dsimp only at u12 frc Lc ⊢
      have l12 := l11.at u12 (by simp)
      have x12 := x11.at u12 fun b o hb => absurd hb List.not_mem_nil
      have ns12 := ns11.at (h' := h12) fun o ho => u12.at ho (by simp)
      have Se12 := Se11.at u12 (by simp) fun b hb => absurd hb List.not_mem_nil
      have base12 : Base (KK w) h12 := base11.keeps fun b o e => u12 b o (by simp) e
      have q12 : Quiet (A'.mark (some (.ref e))) h12 := q11.at fun b o e => u12 b o (by simp) e
      refine callF1 (id := "sorted") (ldB base12 g_sorted b_sorted (by decide) ⟨rfl, cde_attr base12 l12 rfl x12 ns12 rfl (fun tk12' => sorted_pset q12 Se12 (hps12 le Se12.nodup fun p hp => (hle p).mp hp) fun h13 tk13 rd rs ps' u13' frd Ld Td pd md => ?_) cde_ned noex_edges⟩)
      dsimp only at u13' frd Ld Td ⊢
      have uP := Upto.push (xs := []) (h := h13) { cls := .type "tuple", data := .seq #[.ref t, .ref rc, .ref rd] }
      have u1114 := (u12.trans u13').trans uP
      have l14 := l11.at u1114 (by simp)
      obtain ⟨m14, n14⟩ := l14.ns
      refine wpAny_nameGoes rfl n14 rfl fun h15 m15 n15 sb15 => ?_
      have u1415 : Upto [L] _ h15 := Upto.same sb15 (.head _)
      have u1115 : Upto [L] h11 h15 := (u1114.mono (by simp)).trans u1415
      have hLo : L ∉ framesAt outer := fun q => by
        obtain ⟨_, o, ho, _⟩ := hF.mem q
        rw [fL] at ho; cases ho
      have hr14 : h13.objs.size ≠ L := by
        obtain ⟨o, _, _, ho, _⟩ := (l12.at u13' (by simp)).get
        exact (ne_of_none ho get_none_size).symm
      have hrcL : rc ≠ L := by obtain ⟨o, _, _, ho, _⟩ := l11.get; exact (ne_of_none ho frc).symm
      have hrdL : rd ≠ L := by obtain ⟨o, _, _, ho, _⟩ := l12.get; exact (ne_of_none ho frd).symm
      have us : Upto (framesAt outer) s.heap h15 := fun b o hb e => u1115 b o (by simpa using ne_of_none e fL) (u11 b o hb e)
      refine h _ _ h13.objs.size us (fun b hb o e => ?_) ?_ ⟨t, as, T0.length - n, .ref rc, .ref rd, ⟨_, u1415.at (Heap.get?_push_size _ rfl) (by simpa using hr14), rfl, _, rfl⟩, p11.at u1115 (by simpa using neTL), L11.at u1115 (fun a ha => by simpa using (ne_of_none hoL3 (has a ha)).symm), ⟨hrd, er⟩,
        .inr ⟨ne, rc, rd, vs, ns, rs, ps', rfl, rfl, IsList.at (IsList.at Lc (u13'.trans uP) (by simp)) u1415 (by simpa using hrcL), Ic, pc, fun n => (mc n).trans (hO n), IsList.at (IsList.at Ld uP (by simp)) u1415 (by simpa using hrdL), (Td.at uP (by simp)).at u1415 (fun r hr => ?_), pd, fun p => (md p).trans (hle p)⟩⟩
      · obtain ⟨sl, e2⟩ := fl10.2.1 b (by rw [hSe]; exact .tail _ hb) o e
        exact ⟨sl, u1115.at (u1011.at e2 (by simpa using fun q : b = L => hLo (q ▸ hb))) (by simpa using fun q : b = L => hLo (q ▸ hb))⟩
      · cases q : s.heap.get? h13.objs.size with
        | none => rfl
        | some o =>
          by_cases z : h13.objs.size ∈ framesAt outer
          · obtain ⟨sl, e2⟩ := fl10.2.1 _ (by rw [hSe]; exact .tail _ z) o q
            have := (u12.trans u13').at (u1011.at e2 (by simpa using hr14)) (by simp)
            rw [get_none_size] at this; cases this
          · have := (u12.trans u13').at (u11 _ o z q) (by simp)
            rw [get_none_size] at this; cases this
      · obtain ⟨p, tp⟩ := Td.mem hr
        simpa using (l12.at u13' (by simp)).ne_tup tp
end
end Mine
end

section
open PySem PySem.W PySem.Calls PyProof.Rows
set_option Elab.async false
set_option maxRecDepth 100000
namespace Mine

section
variable {M : Model} {A : Around} {R : GenEnd} {Y : Protocol} {n : Nat} {s₀ : Shared} {c : Code} {fs : List Frame} {s : Shared} {env : Env}
  {K : Flow → Sem Fin} {H : Value → Sem Fin} {gd : Bool → Bool} {lv : List Value → List Value}

theorem seg_For {target iter : Expr} {body orelse : List Stmt} {pos : Pos}
    (h : wpAny M (A.over c fs) (eval iter env) (fun x s1 => wpAny M (A.over c fs) (pyIter x) (fun it s2 => ∀ p k, k (.ok .next) = K .next →
      Seg M A R Y n s₀ (.forLoop target it body orelse env) (M.den (.forLoop target it body orelse env)) (.ret k none (gd false) (lv []) c p [] :: fs) s2) (fun _ _ => False) s1) (fun _ _ => False) s)
    (hs : ∀ x, foldedSetIterable iter env x = pure x := by intro _; rfl) :
    Seg M A R Y n s₀ c ((exec (.For target iter body orelse pos) env).wrap K H gd lv) fs s := by
  rw [exec_For, Sem.bind_eq_wrap', Sem.wrap_wrap]
  refine seg_wrap (wpAny_standAt ?_)
  rw [Sem.bind_eq_wrap', Sem.wrap_wrap]
  refine seg_wrap (wpAny_mono h (fun x s1 h1 => ?_) fun _ _ q => q.elim)
  rw [hs x]
  show Seg _ _ _ _ _ _ _ (Sem.wrap _ _ _ _ (standAt _ >>= _)) _ _
  rw [Sem.bind_eq_wrap', Sem.wrap_wrap]
  refine seg_wrap (wpAny_standAt ?_)
  rw [Sem.bind_eq_wrap', Sem.wrap_wrap]
  refine seg_wrap (wpAny_holding (wpAny_mono h1 (fun it s2 h2 => ?_) fun _ _ q => q.elim))
  exact seg_call fun p => h2 p _ rfl
end

section
variable {prog : Program} {w : World} {A : Around} {R : GenEnd} {Y : Protocol} {n : Nat} {s₀ : Shared} {fs : List Frame} {s : Shared} {env : Env}

theorem seg_forLoop {target : Expr} {it : Value} {body : List Stmt}
    (h : wpAny (model prog w) (A.over (.forLoop target it body [] env) fs) (pyNext it) (fun r s1 => match r with
      | none => Seg (model prog w) A R Y n s₀ (.block [] env) (leafOf (.ok .next)) fs s1
      | some v => wpAny (model prog w) (A.over (.forLoop target it body [] env) fs) (letOwnedTupleGo target it v) (fun _ s2 => wpAny (model prog w) (A.over (.forLoop target it body [] env) fs) (assign target env v) (fun _ s3 =>
          ∀ K H, K .next = .pure (.again (.forLoop target it body [] env)) → Seg (model prog w) A R Y n s₀ (.forLoop target it body [] env) ((execs body env).wrap K H id id) fs s3) (fun _ _ => False) s2) (fun _ _ => False) s1) (fun _ _ => False) s) :
    Seg (model prog w) A R Y n s₀ (.forLoop target it body [] env) ((model prog w).den (.forLoop target it body [] env)) fs s := by
  show Seg _ A R Y n s₀ _ ((forTurn target it body [] env).onRaise (fun x => do noteFrame x env; theTreesLotGoes x)) fs s
  unfold forTurn
  rw [Sem.onRaise_eq_wrap, Sem.bind_eq_wrap', Sem.wrap_wrap]
  refine seg_wrap (wpAny_standAt ?_)
  rw [Sem.bind_eq_wrap', Sem.wrap_wrap]
  refine seg_wrap (wpAny_onRaise (wpAny_mono h (fun r s1 h1 => ?_) fun _ _ q => q.elim))
  cases r with
  | none => exact seg_again rfl h1
  | some v =>
    show Seg _ _ _ _ _ _ _ (Sem.wrap _ _ _ _ (letOwnedTupleGo target it v >>= _)) _ _
    rw [Sem.bind_eq_wrap', Sem.wrap_wrap]
    refine seg_wrap (wpAny_mono h1 (fun _ s2 h2 => ?_) fun _ _ q => q.elim)
    rw [Sem.bind_eq_wrap', Sem.wrap_wrap]
    refine seg_wrap (wpAny_mono h2 (fun _ s3 h3 => ?_) fun _ _ q => q.elim)
    rw [Sem.bind_eq_wrap', Sem.wrap_wrap]
    exact h3 _ _ rfl

theorem entry_yf : entryFor table "proto.yield_from" = some Builtin.«proto.yield_from» := entryFor_of_tree (by kernel_rfl)
theorem no_close : typeLookup (.type "list_iterator") (Str.ofString "close") = pure none := by rw [typeLookup_type, builtinLookup_eq_fast]; kernel_rfl
abbrev yfc (It : Addr) : Code := .builtin "proto.yield_from" ⟨[.ref It, .bool false, .none], []⟩

theorem slept_no {M : Model} {It : Addr} {b : Bool} {o : Obj} {Q : Unit → Shared → Prop} {E : Value → Shared → Prop} (ho : s.heap.get? It = some o) (hc : o.cls = .type "list_iterator") (h : Q () s) : wpAny M A (Builtin.Generator.sleptOver (.ref It) b) Q E s := by
  unfold Builtin.Generator.sleptOver
  refine wpAny_bind (wpAny_load ho ?_)
  rw [hc]
  exact wpAny_pure h

theorem den_entry {id : String} {args : Args} {b : Builtin} (hb : entryFor table id = some b) : (model prog w).den (.builtin id args) = b args := by
  show (match entryFor table id with | some b => b args | none => unsupported ((withoutEnding? id "#data").getD id)) = _
  rw [hb]
theorem typeOf_stop : typeOf (.type "StopIteration") = pure (.type "type") := by kernel_rfl
theorem ends_stop {M : Model} {e : Addr} {o : Obj} {Q : Bool → Shared → Prop} {E : Value → Shared → Prop} (hst : s.heap.get? e = some o) (hc : o.cls = .type "StopIteration") (h : Q true s) : wpAny M A (Builtin.Generator.endsTheTurnAsAValue false (.ref e)) Q E s := by
  unfold Builtin.Generator.endsTheTurnAsAValue Builtin.Generator.isStopAndMetaclass
  refine wpAny_bind (wpAny_bind (wpAny_typeOf (T := "StopIteration") ⟨_, hst, hc⟩ ?_))
  dsimp only
  refine wpAny_bind (wpAny_of_eq isSubtype_stop ?_)
  refine wpAny_bind (wpAny_of_eq typeOf_stop ?_)
  exact wpAny_pure (wpAny_pure h)
theorem yf_turn {It l : Addr} {i : Nat} {vs : Array Value} {v : Value} (hit : s.heap.IsListIter It l i) (hl : s.heap.IsList l vs) (hx : vs[i]? = some v) (hfs : splitAtGen fs = none) (hfg : fs.any Frame.guarded = false)
    (h : ∀ h', h'.IsListIter It l (i + 1) → Heap.SameBut It s.heap h' → ∀ kap : Resume → Shared → Prop,
      (∀ s'', (∃ o, s''.heap.get? It = some o ∧ o.cls = .type "list_iterator") → Seg (model prog w) A R Y n s'' (yfc It) ((model prog w).den (yfc It)) fs s'' → kap (.send .none) s'') → Y n s₀ v { s with heap := h' } kap) :
    Seg (model prog w) A R Y (n + 1) s₀ (yfc It) ((model prog w).den (yfc It)) fs s := by
  rw [den_entry entry_yf]
  unfold Builtin.«proto.yield_from»
  obtain ⟨o, ho, hc, hd⟩ := id hit
  obtain ⟨ol, hol, _, nl, hdl⟩ := hl
  refine seg_bind (wpAny_pure ?_)
  refine seg_bind (wpAny_attempt (wpAny_holding ?_))
  rw [if_neg (by decide), if_pos (by rfl)]
  refine wpAny_bind (wpAny_rule (wpAny_bind (wpAny_callSpecial?_slot (name := Str.ofString "__next__") hit.typeIs slot_listiter_next
    (wpAny_call_entry slot_listiter_next hit.typeIs entry_listiter_next ?_ (args_listiter_next _)))))
  show wpAny _ _ (field (.ref It) 0 >>= _) _ _ s
  refine wpAny_bind (wpAny_field ho hd (x := .ref l) rfl ?_)
  show wpAny _ _ (if (Value.ref l == Value.none) = true then _ else _) _ _ s
  rw [if_neg (show ¬ ((Value.ref l == Value.none) = true) from Bool.false_ne_true)]
  show wpAny _ _ (field (.ref It) 1 >>= _) _ _ s
  refine wpAny_bind (wpAny_field ho hd (x := .int i 0) rfl ?_)
  show wpAny _ _ (seqItems? (.ref l) >>= _) _ _ s
  refine wpAny_bind (wpAny_seqItems hol hdl ?_)
  simp only [Int.toNat_natCast, hx]
  refine wpAny_bind (wpAny_setField ho hd (by simp) (wpAny_pure ⟨v, rfl, wpAny_pure ?_⟩))
  have hit' : (s.heap.update It (Obj.mapFields (·.setIfInBounds 1 (rawInt ((i : Int) + 1))))).IsListIter It l (i + 1) :=
    ⟨_, Heap.get?_update_self _ ho (Obj.isFreed_of_fields (Obj.data_mapFields hd _)), (Obj.cls_mapFields ..).trans hc, by rw [Obj.data_mapFields hd]; simp [rawInt]⟩
  have hsb : Heap.SameBut It s.heap (s.heap.update It (Obj.mapFields (·.setIfInBounds 1 (rawInt ((i : Int) + 1))))) := Heap.SameBut.update ..
  generalize s.heap.update It (Obj.mapFields (·.setIfInBounds 1 (rawInt ((i : Int) + 1)))) = h' at hit' hsb ⊢
  obtain ⟨o', ho', hc', _⟩ := id hit'
  refine seg_bind (wpAny_typeOf (T := "list_iterator") ⟨o', ho', hc'⟩ ?_)
  dsimp only
  refine seg_bind (wpAny_of_eq no_close ?_)
  refine seg_bind (wpAny_pure ?_)
  refine seg_bind (slept_no ho' hc' ?_)
  refine seg_yield hfs rfl hfg ?_
  refine h h' hit' hsb _ fun s'' hI hseg => ?_
  obtain ⟨o2, ho2, hc2⟩ := hI
  refine seg_bind (wpAny_pure ?_)
  refine seg_bind (slept_no ho2 hc2 ?_)
  exact seg_again (plainId_quiet (by decide +kernel) _) hseg

theorem yf_done {It l : Addr} {i : Nat} {vs : Array Value} (hh : (A.over (yfc It) fs).handled = none) (hit : s.heap.IsListIter It l i) (hl : s.heap.IsList l vs) (hx : vs[i]? = none)
    (h : ∀ h', Heap.ExtBut It s.heap h' → Seg (model prog w) A R Y n s₀ (yfc It) (leafOf (.ok (.ret .none))) fs { s with heap := h' }) :
    Seg (model prog w) A R Y n s₀ (yfc It) ((model prog w).den (yfc It)) fs s := by
  rw [den_entry entry_yf]
  unfold Builtin.«proto.yield_from»
  obtain ⟨o, ho, hc, hd⟩ := id hit
  obtain ⟨ol, hol, _, nl, hdl⟩ := hl
  refine seg_bind (wpAny_pure ?_)
  refine seg_bind (wpAny_attempt (wpAny_holding ?_))
  rw [if_neg (by decide), if_pos (by rfl)]
  refine wpAny_bind (wpAny_rule (wpAny_bind (wpAny_callSpecial?_slot (name := Str.ofString "__next__") hit.typeIs slot_listiter_next
    (wpAny_call_entry slot_listiter_next hit.typeIs entry_listiter_next ?_ (args_listiter_next _)))))
  show wpAny _ _ (field (.ref It) 0 >>= _) _ _ s
  refine wpAny_bind (wpAny_field ho hd (x := .ref l) rfl ?_)
  show wpAny _ _ (if (Value.ref l == Value.none) = true then _ else _) _ _ s
  rw [if_neg (show ¬ ((Value.ref l == Value.none) = true) from Bool.false_ne_true)]
  show wpAny _ _ (field (.ref It) 1 >>= _) _ _ s
  refine wpAny_bind (wpAny_field ho hd (x := .int i 0) rfl ?_)
  show wpAny _ _ (seqItems? (.ref l) >>= _) _ _ s
  refine wpAny_bind (wpAny_seqItems hol hdl ?_)
  simp only [Int.toNat_natCast, hx]
  refine wpAny_bind (wpAny_rule (wpAny_bind (wpAny_setField ho hd (by simp) ?_)))
  show wpAny _ _ (newExc (.type "StopIteration") [] >>= _) _ _ _
  refine wpAny_bind ?_
  simp only [newExc, newTuple]
  refine wpAny_bind (wpAny_newObj_type ?_ (by size_fits))
  refine wpAny_bind (m := firstArgMember _ _) (wpAny_of_eq (a := Value.none) (by first | rfl | (simp only [firstArgMember]; rfl)) ?_)
  refine wpAny_newObj_type ?_ (by size_fits)
  simp only [raiseNew]
  refine wpAny_bind (wpAny_handled ?_)
  rw [show (A.over (yfc It) fs).in1.handled = none from hh]
  refine wpAny_bind (wpAny_pure (wpAny_throw ?_))
  have hst := Heap.get?_push_size (((s.heap.update It (Obj.mapFields (·.setIfInBounds 0 Value.none))).push { cls := .type "tuple", data := .seq #[] }) : Heap) (o := { cls := .type "StopIteration", data := .fields (#[Value.ref (s.heap.update It (Obj.mapFields (·.setIfInBounds 0 Value.none))).objs.size, .none, .none, .none, .bool false, .none] ++ ownMembersOf (.type "StopIteration") []) }) rfl
  have hex : Heap.ExtBut It s.heap (((s.heap.update It (Obj.mapFields (·.setIfInBounds 0 Value.none))).push { cls := .type "tuple", data := .seq #[] }).push { cls := .type "StopIteration", data := .fields (#[Value.ref (s.heap.update It (Obj.mapFields (·.setIfInBounds 0 Value.none))).objs.size, .none, .none, .none, .bool false, .none] ++ ownMembersOf (.type "StopIteration") []) }) :=
    ((Heap.SameBut.update ..).extBut.push _).push _
  refine seg_bind (ends_stop hst rfl ?_)
  rw [if_pos rfl, if_neg (by decide)]
  refine seg_bind (wpAny_rule ?_)
  refine seg_bind (wpAny_field hst rfl (x := .none) (by rfl) ?_)
  exact h _ hex

theorem seg_Expr_YieldFrom {c : Code} {K : Flow → Sem Fin} {H : Value → Sem Fin} {gd : Bool → Bool} {lv : List Value → List Value} {e : Expr} {ypos pos : Pos}
    (h : wpAny (model prog w) (A.over c fs) (eval e env) (fun v s1 => ∃ l vs, v = .ref l ∧ s1.heap.IsList l vs ∧ ∀ p k, k (.ok (.ret .none)) = K .next →
      Seg (model prog w) A R Y n s₀ (yfc s1.heap.objs.size) ((model prog w).den (yfc s1.heap.objs.size)) (.ret k none (gd false) (lv []) c p [] :: fs) { s1 with heap := s1.heap.push { cls := .type "list_iterator", data := .fields #[.ref l, .int 0 0] } }) (fun _ _ => False) s)
    (hi : interactive env = false := by rfl) :
    Seg (model prog w) A R Y n s₀ c ((exec (.Expr (.YieldFrom e ypos) pos) env).wrap K H gd lv) fs s := by
  rw [exec_Expr env _ pos hi rfl]
  show Seg (model prog w) A R Y n s₀ c (.at pos fun _ => ((eval e env >>= fun v => (standAt ypos >>= fun _ => yieldFrom env v)) >>= fun x =>
    dropValue (.YieldFrom e ypos) pos x).wrap K H gd lv) fs s
  refine seg_at ?_
  rw [Sem.bind_eq_wrap', Sem.bind_eq_wrap', Sem.wrap_wrap, Sem.wrap_wrap]
  refine seg_wrap (wpAny_mono h (fun v s1 h1 => ?_) fun _ _ q => q.elim)
  obtain ⟨l, vs, rfl, hl, hk⟩ := h1
  refine seg_at ?_
  show Seg _ _ _ _ _ _ _ (Sem.wrap _ _ _ _ (yieldFrom env (.ref l))) fs s1
  unfold yieldFrom
  rw [Sem.bind_eq_wrap', Sem.wrap_wrap]
  refine seg_wrap (wpAny_typeOf (T := "list") hl.typeIs ?_)
  rw [if_neg (by decide)]
  rw [Sem.bind_eq_wrap', Sem.wrap_wrap]
  refine seg_wrap (wpAny_holding (wpAny_pyIter_list hl ?_))
  exact seg_call fun p => hk p _ rfl
end
end Mine
end

section
open PySem PySem.W PySem.Calls PyProof.Rows
set_option Elab.async false
set_option maxRecDepth 100000
namespace Mine

def flatK (ps : List (Int × Int)) (T0 : List Int) (K : Nat) : List Int := (layersTo ps T0 K).flatten
/-- what is left behind the first j layers -/
def leftK (ps : List (Int × Int)) (T0 : List Int) (K j : Nat) : List Int := ((List.range' j (K - j)).map fun i => ready ps (todoAt ps T0 i)).flatten
theorem leftK_self {ps : List (Int × Int)} {T0 : List Int} {K : Nat} : leftK ps T0 K K = [] := by unfold leftK; rw [Nat.sub_self]; rfl
theorem leftK_step {ps : List (Int × Int)} {T0 : List Int} {K j : Nat} (h : j < K) : leftK ps T0 K j = ready ps (todoAt ps T0 j) ++ leftK ps T0 K (j + 1) := by
  unfold leftK
  rw [show K - j = (K - (j + 1)) + 1 by omega, List.range'_succ, List.map_cons, List.flatten_cons]
theorem flatK_split {ps : List (Int × Int)} {T0 : List Int} {K : Nat} : ∀ {j : Nat}, j ≤ K → flatK ps T0 K = flatK ps T0 j ++ leftK ps T0 K j
  | 0, _ => by
    unfold flatK layersTo leftK
    rw [Nat.sub_zero, List.range_eq_range']; rfl
  | j + 1, h => by
    rw [flatK_split (j := j) (by omega), leftK_step (by omega), ← List.append_assoc]
    congr 1
    unfold flatK
    rw [layersTo_succ, List.flatten_append, List.flatten_cons, List.flatten_nil, List.append_nil]
theorem flatK_at {ps : List (Int × Int)} {T0 : List Int} {K j i : Nat} (h : j < K) (hi : i < (ready ps (todoAt ps T0 j)).length) :
    (flatK ps T0 K)[(flatK ps T0 K).length - ((ready ps (todoAt ps T0 j)).length - i + (leftK ps T0 K (j + 1)).length)]? = (ready ps (todoAt ps T0 j))[i]? := by
  rw [flatK_split (j := j) (by omega), leftK_step h]
  have : (flatK ps T0 j ++ (ready ps (todoAt ps T0 j) ++ leftK ps T0 K (j + 1))).length - ((ready ps (todoAt ps T0 j)).length - i + (leftK ps T0 K (j + 1)).length) = (flatK ps T0 j).length + i := by
    simp only [List.length_append]; omega
  rw [this, List.getElem?_append_right (by omega), Nat.add_sub_cancel_left, List.getElem?_append_left hi]

/-- what stood before, and what is named, stays -/
def KeepOld (hc : Heap) (S0 r : Addr) (h h' : Heap) : Prop := ∀ b o, (hc.get? b ≠ none ∨ b = S0 ∨ b = r) → h.get? b = some o → h'.get? b = some o
theorem KeepOld.trans {hc h1 h2 h3 : Heap} {S0 r : Addr} (x : KeepOld hc S0 r h1 h2) (y : KeepOld hc S0 r h2 h3) : KeepOld hc S0 r h1 h3 := fun b o q e => y b o q (x b o q e)
theorem KeepOld.of_upto {hc h h' : Heap} {S0 r : Addr} {xs : List Addr} (u : Upto xs h h') (k : ∀ b, b ∈ xs → hc.get? b = none ∧ b ≠ S0 ∧ b ≠ r) : KeepOld hc S0 r h h' := fun b o q e => u b o (fun hb => by
  obtain ⟨k1, k2, k3⟩ := k b hb
  rcases q with q | q | q
  · exact q k1
  · exact k2 q
  · exact k3 q) e

def SY (hc : Heap) (S0 r : Addr) (G : Array GenState) (flat : List Int) : Protocol := fun m s0 v s' k =>
  ∃ h' tk gI i t, flat[flat.length - (m + 1)]? = some i ∧ v = .int i t ∧ s' = { s0 with heap := h', toks := tk, gens := G.push gI } ∧ KeepOld hc S0 r s0.heap h' ∧ m + 1 ≤ flat.length ∧
    ∀ s'', Upto [S0] h' s''.heap → (∃ o, s''.heap.get? S0 = some o) → s''.gens = G.push gI → k (.send .none) s''
def SR (hc : Heap) (S0 r : Addr) (G : Array GenState) : GenEnd := fun n s0 res s' =>
  n = 0 ∧ res = .ok (.ret .none) ∧ ∃ h' tk, s' = { s0 with heap := h', toks := tk, gens := G.push .finished } ∧ KeepOld hc S0 r s0.heap h'

section
variable {prog : Program} {w : World} {A : Around} {E : Value → Shared → Prop} {R : Result → Shared → Prop} {s : Shared}

theorem seg_ind {M : Model} {R : GenEnd} {Y : Protocol} {c : Code} {fs : List Frame} (Inv : Nat → Shared → Shared → Prop)
    (step : ∀ n s0 s, (∀ m s0' s', m < n → Inv m s0' s' → Seg M A R Y m s0' c (M.den c) fs s') → Inv n s0 s → Seg M A R Y n s0 c (M.den c) fs s) :
    ∀ n s0 s, Inv n s0 s → Seg M A R Y n s0 c (M.den c) fs s := by
  intro n
  induction n using Nat.strongRecOn with
  | ind n ih => exact fun s0 s hI => step n s0 s (fun m s0' s' hm hI' => ih m hm s0' s' hI') hI

/-- a call of an own generator function, its arguments bound by whatever road -/
theorem call_genD {K : Frag} {a : Addr} {o : Obj} {fd : FuncData} {body : List Stmt} {args : List Value} {binds : List (Str × Value)}
    (B : Base K s.heap) (ho : K.lookup a = some o) (hd : o.data = .func fd) (hcd : codeIn K fd.code fd.qualname = true) (hroom : A.depth < recursionLimit)
    (hbody : fd.body = .stmts body) (hbind : wpAny (model prog w) A.in1 (bindArgs fd ⟨args, []⟩) (fun b s1 => b = binds ∧ s1 = s) (fun _ _ => False) s) (hcl : fd.closure = [])
    (hkind : ∀ n, (binds.all fun x => (fd.scope.names.lookup x.1 == some .local) || ((fd.scope.names.lookup x.1 == some .cell) && ((cellsFrom n fd.scope.names []).lookup x.1).isSome)) = true)
    (h : ∀ h1 tk h2 r, Upto [] s.heap h1 → h1.Ns s.heap.objs.size (bindL (fnEnv fd s.heap.objs.size a).kindOf binds fun _ => none) →
      (∀ n c, (cellsFrom (s.heap.objs.size + 1) fd.scope.names []).lookup n = some c → h1.IsCell c (bindC (fnEnv fd s.heap.objs.size a).kindOf binds (fun _ => none) n)) →
      (∀ n c, (n, c) ∈ cellsFrom (s.heap.objs.size + 1) fd.scope.names [] → s.heap.objs.size < c) →
      Upto [] h1 h2 → h1.get? r = none → h2.IsGen r s.gens.size →
      R (.ok (.ret (.ref r))) { s with heap := h2, toks := tk, gens := s.gens.push (.fresh (.func body (fnEnv fd s.heap.objs.size a))) })
    (hco : fd.scope.isCoroutine = false := by rfl) (hgen : fd.scope.isGenerator = true := by rfl) (hk : fd.scope.kind = .function := by rfl) :
    codeAny (model prog w) A (.call (.ref a) ⟨args, []⟩) R s := by
  refine codeAny_call_generator hroom (B.1 _ _ ho) hd hco hgen hbody (codeRec_of B.1 hcd) (wpAny_mono hbind (fun b s1 hb => ?_) fun _ _ q => q.elim)
  obtain ⟨rfl, rfl⟩ := hb
  rw [hcl]
  refine wpAny_newFunctionEnv_cells hk (fun x hx => ?_) fun env' he s' x => ?_
  · have := List.all_eq_true.mp (hkind (s1.heap.objs.size + 1)) x hx
    simp only [Bool.or_eq_true, Bool.and_eq_true, beq_iff_eq] at this
    exact this
  · subst he
    obtain ⟨h₁, tk, rfl, keep⟩ := x.done
    refine ⟨B.nolimit.keeps keep, ?_⟩
    refine h h₁ _ _ _ (fun b o _ e => keep b o e) x.toInCall.ns x.cell x.above (Upto.push _) get_none_size ?_
    exact ⟨_, _, _, Heap.get?_push_size _ rfl, rfl, rfl, rfl⟩

set_option maxHeartbeats 4000000 in
theorem sort_call {X Z : Addr} {ps : List (Int × Int)} {T0 : List Int} {K : Nat} (B : Base (KK w) s.heap) (hroom : A.depth < recursionLimit) (SX : Src w s.heap X ps) (IZ : IL s.heap Z T0)
    (hs : ∀ p, p ∈ ps → Small p) (hps12 : ∀ l : List (Int × Int), l.Nodup → (∀ p, p ∈ l → p ∈ ps) → l.length ≤ 12) (hsix : ∀ n, n ∈ T0 → n ∈ six) (hlen : T0.length ≤ 6) (hK : Lay ps T0 K) (hK0 : todoAt ps T0 K = [])
    (h : ∀ h' tk r gs, Upto [] s.heap h' → s.heap.get? r = none → h'.IsGen r s.gens.size →
      (∀ (A' : Around) (outer : List Env) (s'' : Shared) (S0 : Addr), A'.handled = none → A'.depth + 20 < recursionLimit → A'.units + 120 < cLine → A'.frames = some outer → Frames s.heap outer → Upto [] h' s''.heap → h'.get? S0 = none →
        (∃ o, s''.heap.get? S0 = some o) → s''.gens = s.gens.push .running →
        GenState.Goes (model prog w) A' (SR s.heap S0 r (s.gens.push .running)) (SY s.heap S0 r (s.gens.push .running) (flatK ps T0 K)) (flatK ps T0 K).length gs (.send .none) s'') →
      R (.ok (.ret (.ref r))) { s with heap := h', toks := tk, gens := s.gens.push gs }) :
    codeAny (model prog w) A (.call (.ref 65) ⟨[.ref X, .ref Z, .bool false], []⟩) R s := by
  refine call_genD B (a := 65) (o := _) rfl rfl (by kernel_rfl) hroom rfl (binds := [(Str.ofString "tuples", .ref X), (Str.ofString "allitems", .ref Z), (Str.ofString "deterministic_order", .bool false)]) ?_ rfl (fun n => by rfl) ?_
  · show wpAny _ _ (seqItems? (.ref _) >>= _) _ _ _
    refine wpAny_bind (wpAny_seqItems (B.1 _ _ rfl) rfl ?_)
    exact wpAny_pure ⟨rfl, rfl⟩
  intro h1 tk h2 r U1 hns c1 c2 U2 fr hgen
  clear c1 c2
  have fr0 : s.heap.get? r = none := none_of U1 fr
  refine h h2 tk r _ (U1.trans U2) fr0 hgen ?_
  have l1 : Loc h1 s.heap.objs.size [(Str.ofString "tuples", .ref X), (Str.ofString "allitems", .ref Z)] := Loc.of hns (List.forall_mem_cons.mpr ⟨rfl, List.forall_mem_cons.mpr ⟨rfl, fun _ h => nomatch h⟩⟩)
  clear hns
  intro A' outer s'' S0 hh hd hu hfr hF u2 fS0 hS0 hgens
  have nL : s.heap.get? s.heap.objs.size = none := get_none_size
  generalize hL : s.heap.objs.size = L at l1 nL ⊢
  have l2 := (l1.at U2 (by simp)).at u2 (by simp)
  have u0 : Upto [] s.heap s''.heap := (U1.trans U2).trans u2
  have B2 : Base (KK w) s''.heap := B.keeps fun b o e => u0 b o (by simp) e
  have SX2 : Src w s''.heap X ps := SX.at u0 (by simp) fun _ _ _ => by simp
  have IZ2 : IL s''.heap Z T0 := IZ.at u0 (by simp)
  have hX2 : ∃ o, s''.heap.get? X = some o := let ⟨o, ho, _⟩ := SX2.get; ⟨o, ho⟩
  have hZ2 : ∃ o, s''.heap.get? Z = some o := let ⟨o, ho, _⟩ := IZ2.get; ⟨o, ho⟩
  refine ⟨rfl, seg_func ?_⟩
  refine seg_execs_cons (seg_For (callU2 (ldG B2 g_subsets ⟨rfl, ldL l2 rfl (ldL l2 rfl ⟨⟨_, B2.1 57 _ rfl, rfl⟩, wpAny_call (sas_call B2 (show A'.depth + 1 < recursionLimit by omega) hs hps12 hsix hlen hX2 hZ2 fun h4 tk4 g gs u24 fg hg hGo => ?_)⟩)⟩)))
  dsimp only at u24 fg hg hGo ⊢
  refine wpAny_pyIter_gen hg ?_
  intro p k hk
  obtain ⟨oL2, esL2, epL2, hoL2, hdL2⟩ := l2.get
  generalize hcF : Code.forLoop _ _ _ _ _ = cF
  generalize hF1 : [Frame.ret k _ _ _ _ p _] = fs1
  have hS2 := hS0
  obtain ⟨oS, hoS⟩ := hS2
  have fS : s.heap.get? S0 = none := none_of (U1.trans U2) fS0
  have hr2 : ∃ o, s''.heap.get? r = some o := by obtain ⟨o, nm, qn, ho, _⟩ := hgen; exact ⟨o, u2.at ho (by simp)⟩
  have hLr : L ≠ r := by
    obtain ⟨o, _, _, ho, _⟩ := l1.get
    exact ne_of_none ho fr
  have hLS : L ≠ S0 := by
    obtain ⟨o, _, _, ho, _⟩ := (l1.at U2 (by simp)).get
    exact ne_of_none ho fS0
  have hrS : r ≠ S0 := by obtain ⟨o, nm, qn, ho, _⟩ := hgen; exact ne_of_none ho fS0
  have hgL : g ≠ L := (ne_of_none hoL2 fg).symm
  have hgS : g ≠ S0 := (ne_of_none hoS fg).symm
  have hfrA : ∀ (c : Code) (fs : List Frame) (env : Env), c.envs = [] → envsOf (fs.map Frame.where_) = [env] → (A'.over c fs).frames = some (env :: outer) := fun c fs env q1 q2 => by
    show pushEnvs c.envs (pushEnvs _ A'.frames) = _
    rw [q1, q2, hfr]; rfl
  have FRe : ∀ env : Env, env.scope.kind ≠ .module → env.frame = some L → ∀ h bs, Loc h L bs → Frames h outer → Frames h (env :: outer) :=
    fun env q1 q2 h bs l f => ⟨q1, ⟨L, _, q2, noHeap_get _, l.get.choose_spec.choose_spec.choose_spec.1, fun vs q => by rw [l.get.choose_spec.choose_spec.choose_spec.2] at q; cases q⟩, f⟩
  obtain ⟨outer2, hfr2, hSe, FR⟩ : ∃ outer2, (A'.over cF fs1).frames = some outer2 ∧ framesAt outer2 = L :: framesAt outer ∧ ∀ h bs, Loc h L bs → Frames h outer → Frames h outer2 := by
    subst hcF hF1
    refine ⟨_, hfrA _ _ _ rfl rfl, rfl, fun h bs l f => ?_⟩
    exact FRe _ (fun q => nomatch (show ScopeKind.function = ScopeKind.module from q)) rfl h bs l f
  have exS : ∀ b, b ∈ framesAt outer2 → ∃ o, s''.heap.get? b = some o := fun b hb => by
    rw [hSe] at hb
    rcases List.mem_cons.mp hb with rfl | hb
    · exact ⟨_, hoL2⟩
    · obtain ⟨_, o, ho, _⟩ := hF.mem hb
      exact ⟨o, u0.at ho (by simp)⟩
  have hLt : ∀ b, b ∈ [L, S0] → s.heap.get? b = none := fun b hb => by
    rcases List.mem_cons.mp hb with rfl | hb
    · exact nL
    · rw [List.mem_singleton.mp hb]; exact fS
  have res : ∀ h6 h8 bs, Upto [L, S0] s''.heap h8 → GKeep s''.heap h6 h8 → Loc h8 L bs → (∃ o, h8.get? S0 = some o) → Resum w s''.heap X Z ps T0 outer2 h6 h8 := fun h6 h8 bs u k l ht => by
    have u08 : Upto [] s.heap h8 := fun b o _ e => u b o (fun q => by rw [hLt b q] at e; cases e) (u0.at e (by simp))
    refine ⟨k, SX.at u08 (by simp) fun _ _ _ => by simp, IZ.at u08 (by simp), B.keeps fun b o e => u08 b o (by simp) e, FR h8 bs l (hF.upto u08 (by simp)), fun b hb => ?_⟩
    cases q : s''.heap.get? b with
    | none => rfl
    | some o =>
      by_cases z : b ∈ [L, S0]
      · rcases List.mem_cons.mp z with rfl | z
        · obtain ⟨o, _, _, ho, _⟩ := l.get; rw [ho] at hb; cases hb
        · obtain ⟨o, ho⟩ := ht
          rw [List.mem_singleton.mp z, ho] at hb; cases hb
      · rw [u.at q z] at hb; cases hb
  have hhA : (A'.over cF fs1).handled = none := by subst hcF hF1; exact hh
  have hdA : (A'.over cF fs1).depth + 18 < recursionLimit := by subst hcF hF1; show A'.depth + 1 + 18 < _; omega
  have huA : (A'.over cF fs1).units + 110 < cLine := by subst hcF hF1; show A'.units + 3 + 110 < _; omega
  have hGo' := fun s3 => hGo (A'.over cF fs1).in1 outer2 s3 hhA (by show (A'.over cF fs1).depth + 10 < _; omega) (by show (A'.over cF fs1).units + 1 + 100 < _; omega) hfr2 exS
  clear hGo
  rw [hgens] at hg ⊢
  generalize hG : s.gens.push GenState.running = G at hg ⊢
  refine seg_ind (fun n s0 s1 => ∃ h tk gs j nI hl, s1 = { s0 with heap := h, toks := tk, gens := G.push gs } ∧ j ≤ K ∧ nI + j = T0.length ∧ n = (leftK ps T0 K j).length ∧ Loc h L [] ∧ h.IsGen g G.size ∧ KeepOld s.heap S0 r s0.heap h ∧ Upto [L, S0] s''.heap h ∧
    Resum w s''.heap X Z ps T0 outer2 hl h ∧ (∀ s3, Resum w s''.heap X Z ps T0 outer2 hl s3.heap → gs.Goes (model prog w) (A'.over cF fs1).in1 (GR w s''.heap ps T0 outer2) (GY w s''.heap X Z ps T0 outer2) nI (.send .none) s3) ∧ (∃ o, h.get? S0 = some o))
    (fun n s0 s1 ih hI => ?_) _ _ _ ⟨h4, tk4, gs, 0, T0.length, h4, rfl, Nat.zero_le _, rfl, by rw [flatK_split (Nat.zero_le K)]; rfl, (l2.at u24 (by simp)).pick trivial, hg, .of_upto u24 (by simp), u24.mono (by simp), res h4 h4 _ (u24.mono (by simp)) (fun _ _ _ e => e) (l2.at u24 (by simp)) ⟨_, u24.at hoS (by simp)⟩, hGo', ⟨_, u24.at hoS (by simp)⟩⟩
  clear hGo' hg
  obtain ⟨h5, tk5, gs, j, nI, hl, rfl, hjK, hnI, hn, l5, hg5, K5, u25, R5, hGo5, hS5⟩ := hI
  subst hcF hF1
  refine seg_forLoop (next_gen (A := A'.over _ _) hhA R5.base.nolimit (by omega) hg5 (push_get _ _) (hGo5 _ R5) (fun v s1 gs' hv => ?_) (fun r1 s1 hr => ?_))
  · obtain ⟨out, h6, tk6, rfl, rfl, FR6, IL6, ne6, le6, no6, nc6, hk6⟩ := hv
    have k56 : ∀ b o, h5.get? b = some o → (s''.heap.get? b ≠ none ∨ Seqish o) → h6.get? b = some o := fun b o e q => FR6.1 b o (by simp) e q
    have u26 : Upto [L, S0] s''.heap h6 := fun b o hb e => k56 b o (u25.at e hb) (.inl (by rw [e]; exact fun q => nomatch q))
    have l6 : Loc h6 L [] := by
      obtain ⟨m, ⟨o, es, ep, ho, rr⟩, ff⟩ := l5
      exact ⟨m, ⟨o, es, ep, k56 L o ho (.inl (by rw [hoL2]; exact fun q => nomatch q)), rr⟩, ff⟩
    have hg6 : h6.IsGen g G.size := by
      obtain ⟨o, nm, qn, ho, c, hd, sl⟩ := hg5
      exact ⟨o, nm, qn, k56 g o ho (.inr (.inr ⟨_, hd⟩)), c, hd, sl⟩
    have hS6 : ∃ o, h6.get? S0 = some o := by
      obtain ⟨o, ho⟩ := hS5
      exact ⟨o, k56 S0 o ho (.inl (by rw [hoS]; exact fun q => nomatch q))⟩
    have K6 : KeepOld s.heap S0 r s0.heap h6 := K5.trans fun b o q e => k56 b o e (.inl (by
      rcases q with q | rfl | rfl
      · obtain ⟨o', ho'⟩ : ∃ o', s.heap.get? b = some o' := by
          cases e' : s.heap.get? b with
          | none => exact absurd e' q
          | some o' => exact ⟨o', rfl⟩
        rw [u0.at ho' (by simp)]; exact fun q => nomatch q
      · rw [hoS]; exact fun q => nomatch q
      · obtain ⟨o', ho'⟩ := hr2
        rw [ho']; exact fun q => nomatch q))
    cases nI with
    | zero => exact (hk6 { s0 with heap := h6 } (res h6 h6 _ u26 (fun _ _ _ e => e) l6 hS6)).elim
    | succ m =>
      have hjm : T0.length - (m + 1) = j := by omega
      replace IL6 : IL h6 out (ready ps (todoAt ps T0 (T0.length - (m + 1)))) := IL6
      replace ne6 : ready ps (todoAt ps T0 (T0.length - (m + 1))) ≠ [] := ne6
      rw [hjm] at IL6 ne6
      have hjK' : j < K := by
        rcases Nat.lt_or_ge j K with z | z
        · exact z
        · rw [show j = K by omega] at ne6; exact absurd hK.2 ne6
      rw [leftK_step hjK', List.length_append] at hn
      change wpAny _ _ (letOwnedTupleGo _ _ _) _ _ ({ s0 with heap := h6, toks := tk6, gens := ((G.push gs).setIfInBounds G.size .running).setIfInBounds G.size gs' } : Shared)
      rw [push_set, push_set]
      obtain ⟨oL5, _, _, hoL5, _⟩ := l5.get
      have hoL : out ≠ L := (ne_of_none hoL5 no6).symm
      have hoS0 : out ≠ S0 := by obtain ⟨o, ho⟩ := hS5; exact (ne_of_none ho no6).symm
      refine letOwn_name (wpAny_assign_Name (stL l6 fun h7 l7 sb7 => ?_))
      replace l7 : Loc h7 L _ := l7
      have u67 : Upto [L] h6 h7 := Upto.same sb7 (.head _)
      have IL7 := IL6.at u67 (by simpa using hoL)
      obtain ⟨vs, p7, i7⟩ := IL7
      intro K0 H0 hK0'
      refine seg_execs_cons (seg_Expr_YieldFrom (ldL l7 rfl ⟨out, vs.toArray, rfl, p7.list, fun p2 k2 hk2 => ?_⟩))
      dsimp only
      have fI : h7.get? h7.objs.size = none := get_none_size
      have hit8 : (h7.push { cls := .type "list_iterator", data := .fields #[.ref out, .int 0 0] }).IsListIter h7.objs.size out 0 := ⟨_, Heap.get?_push_size _ rfl, rfl, rfl⟩
      have u78 : Upto [] h7 (h7.push { cls := .type "list_iterator", data := .fields #[.ref out, .int 0 0] }) := Upto.push _
      generalize h7.push { cls := .type "list_iterator", data := .fields #[.ref out, .int 0 0] } = h8 at hit8 u78 ⊢
      generalize h7.objs.size = It at fI hit8 ⊢
      have hItL : It ≠ L := by obtain ⟨o, _, _, ho, _⟩ := l7.get; exact (ne_of_none ho fI).symm
      have hS7 : ∃ o, h7.get? S0 = some o := let ⟨o, ho⟩ := hS6; ⟨o, u67.at ho (by simpa using hLS.symm)⟩
      have hItS : It ≠ S0 := by obtain ⟨o, ho⟩ := hS7; exact (ne_of_none ho fI).symm
      have hItg : It ≠ g := by
        obtain ⟨o, nm, qn, ho, _⟩ := hg6
        exact (ne_of_none (u67.at ho (by simpa using hgL)) fI).symm
      have hIto : It ≠ out := by obtain ⟨o, ho, _⟩ := p7.get; exact (ne_of_none ho fI).symm
      have hr7 : ∃ o, h7.get? r = some o := by
        obtain ⟨o, ho⟩ := hr2
        exact ⟨o, u67.at (u26.at ho (by simp [hLr.symm, hrS])) (by simpa using hLr.symm)⟩
      have hItr : It ≠ r := by obtain ⟨o, ho⟩ := hr7; exact (ne_of_none ho fI).symm
      have fIs : ∀ {b : Addr}, b = It → s.heap.get? b = none := fun {b} q => by
        cases e : s.heap.get? b with
        | none => rfl
        | some o =>
          have e2 := u67.at (u26.at (u0.at e (by simp)) (fun z => by rw [hLt b z] at e; cases e)) (fun z => by rw [List.mem_singleton.mp z, nL] at e; cases e)
          rw [q, fI] at e2; cases e2
      have fI6 : h6.get? It = none := by
        cases e : h6.get? It with
        | none => rfl
        | some o =>
          have := u67.at e (by simpa using hItL)
          rw [fI] at this; cases this
      have K8 : KeepOld s.heap S0 r s0.heap h8 := K6.trans (.of_upto ((u67.mono (by simp)).trans (u78.mono (by simp)) : Upto [L] h6 h8) fun b hb => by
        rw [List.mem_singleton.mp hb]; exact ⟨nL, hLS, hLr⟩)
      have hlen7 : vs.length = (ready ps (todoAt ps T0 j)).length := i7.length
      generalize hF2 : (Frame.ret k2 _ _ _ _ p2 _ :: _ : List Frame) = fs2
      have inner : ∀ d i n2 (s0' s2 : Shared), vs.length - i = d → i ≤ vs.length → n2 = d + (leftK ps T0 K (j + 1)).length → (∃ h tk, s2 = { s0' with heap := h, toks := tk, gens := G.push gs' } ∧ h.IsListIter It out i ∧ h.IsList out vs.toArray ∧ Loc h L [] ∧ h.IsGen g G.size ∧
          KeepOld s.heap S0 r s0'.heap h ∧ Upto [L, S0] s''.heap h ∧ GKeep s''.heap h6 h ∧ (∃ o, h.get? S0 = some o)) →
          Seg (model prog w) A' (SR s.heap S0 r G) (SY s.heap S0 r G (flatK ps T0 K)) n2 s0' (yfc It) ((model prog w).den (yfc It)) fs2 s2 := by
        intro d
        induction d with
        | zero =>
          rintro i n2 s0' s2 hd hi hn2 ⟨h, tk, rfl, hit, hlo, ll, hgg, KK', uu, gk, hSS⟩
          have hiv : vs.toArray[i]? = none := by rw [List.getElem?_toArray]; exact List.getElem?_eq_none_iff.mpr (by omega)
          refine yf_done (by subst hF2; exact hh) hit hlo hiv fun h9 he => ?_
          have u9 : Upto [It] h h9 := fun b o hb e => he b o (by simpa using hb) e
          subst hF2
          refine seg_leaf (.ok (.ret .none)) ?_
          rw [hk2]
          show Seg _ _ _ _ _ _ _ ((execs [] _).wrap K0 H0 id id) _ _
          refine seg_execs_nil ?_
          rw [hK0']
          have l9 := ll.at u9 (by simpa using hItL.symm)
          have hS9 : ∃ o, h9.get? S0 = some o := let ⟨o, ho⟩ := hSS; ⟨o, u9.at ho (by simpa using hItS.symm)⟩
          have u29 : Upto [L, S0] s''.heap h9 := fun b o hb e => u9 b o (fun q => ?_) (uu b o hb e)
          · refine seg_again rfl (ih n2 s0' _ ?_ ⟨h9, tk, gs', j + 1, m, h6, rfl, hjK', by omega, by omega, l9, ?_, KK'.trans (.of_upto u9 fun b hb => ?_), u29, res h6 h9 _ u29 (fun b o hb e => u9 b o (fun q => ?_) (gk b o hb e)) l9 hS9, fun s3 r3 => hk6 s3 r3, hS9⟩)
            · have := List.length_pos_iff.mpr ne6
              omega
            · obtain ⟨o, nm, qn, ho, rr⟩ := hgg
              exact ⟨o, nm, qn, u9.at ho (by simpa using hItg.symm), rr⟩
            · rw [List.mem_singleton.mp hb]; exact ⟨fIs rfl, hItS, hItr⟩
            · rw [List.mem_singleton.mp q] at e
              rw [fI6] at e; cases e
          · rw [List.mem_singleton.mp q] at e
            have := u67.at (u26.at e (by simp [hItL, hItS])) (by simpa using hItL)
            rw [fI] at this; cases this
        | succ d ihd =>
          rintro i n2 s0' s2 hd hi hn2 ⟨h, tk, rfl, hit, hlo, ll, hgg, KK', uu, gk, hSS⟩
          have hi' : i < vs.length := by omega
          obtain ⟨t, ht⟩ := ints_get i7 (List.getElem?_eq_getElem (l := ready ps (todoAt ps T0 j)) (i := i) (by omega))
          obtain ⟨m2, rfl⟩ : ∃ m2, n2 = m2 + 1 := ⟨n2 - 1, by omega⟩
          refine yf_turn hit hlo (by rw [List.getElem?_toArray]; exact ht) (by subst hF2; rfl) (by subst hF2; rfl) fun h9 hit9 hsb9 kap hkap => ?_
          have u9 : Upto [It] h h9 := Upto.same hsb9 (.head _)
          have hfl := flatK_at (ps := ps) (T0 := T0) (K := K) (j := j) (i := i) hjK' (by omega)
          rw [show (ready ps (todoAt ps T0 j)).length - i + (leftK ps T0 K (j + 1)).length = m2 + 1 by omega, List.getElem?_eq_getElem (l := ready ps (todoAt ps T0 j)) (i := i) (by omega)] at hfl
          refine ⟨h9, tk, gs', _, t, hfl, rfl, rfl, KK'.trans (.of_upto u9 fun b hb => ?_), ?_, fun s3 u3 hS3 hg3 => ?_⟩
          · rw [List.mem_singleton.mp hb]; exact ⟨fIs rfl, hItS, hItr⟩
          · rw [flatK_split (j := j) hjK, leftK_step hjK', List.length_append, List.length_append]; omega
          · have hit3 : s3.heap.IsListIter It out (i + 1) := by
              obtain ⟨o, ho, hc, hd⟩ := hit9
              exact ⟨o, u3.at ho (by simpa using hItS), hc, hd⟩
            refine hkap s3 (let ⟨o, ho, hc, _⟩ := hit3; ⟨o, ho, hc⟩) ?_
            have u29 : Upto [L, S0] s''.heap h9 := fun b o hb e => u9 b o (fun q => by
              rw [List.mem_singleton.mp q] at e
              have := u67.at (u26.at e (by simp [hItL, hItS])) (by simpa using hItL)
              rw [fI] at this; cases this) (uu b o hb e)
            refine ihd (i + 1) m2 s3 s3 (by omega) hi' (by omega) ⟨s3.heap, s3.toks, by rw [← hg3], hit3, IsList.at (IsList.at hlo u9 (by simpa using hIto.symm)) u3 (by simpa using hoS0), (ll.at u9 (by simpa using hItL.symm)).at u3 (by simpa using hLS), ?_, fun _ _ _ e => e, u29.trans (u3.mono (by simp)), fun b o hb e => u3 b o (fun q => ?_) (u9 b o (fun q => ?_) (gk b o hb e)), hS3⟩
            · obtain ⟨o, nm, qn, ho, rr⟩ := hgg
              exact ⟨o, nm, qn, u3.at (u9.at ho (by simpa using hItg.symm)) (by simpa using hgS), rr⟩
            · rw [List.mem_singleton.mp q, hoS] at hb; cases hb
            · rw [List.mem_singleton.mp q, fI6] at e; cases e
      refine inner _ 0 n s0 _ rfl (Nat.zero_le _) (by omega) ⟨h8, _, rfl, hit8, IsList.at p7.list u78 (by simp), (l7.at u78 (by simp)).pick trivial, ?_, K8, (u26.trans (u67.mono (by simp))).trans (u78.mono (by simp)), fun b o hb e => u78.at (u67 b o (fun q => ?_) e) (by simp), ?_⟩
      · obtain ⟨o, nm, qn, ho, rr⟩ := hg6
        exact ⟨o, nm, qn, u78.at (u67.at ho (by simpa using hgL)) (by simp), rr⟩
      · rw [List.mem_singleton.mp q, hoL2] at hb; cases hb
      · obtain ⟨o, ho⟩ := hS7
        exact ⟨o, u78.at ho (by simp)⟩
  · rcases hr with ⟨e1, rfl, h6, tk6, rfl, FR6⟩ | ⟨ne, er, e, h6, tk6, rfl, rfl, FR6, RF⟩
    · have hjK2 : j = K := by
        rw [show T0.length - nI = j by omega] at e1
        rcases Nat.lt_or_ge j K with z | z
        · exact absurd (by rw [e1]; rfl) (hK.1 j z)
        · omega
      refine .inl ⟨rfl, fun h7 u67 => ?_⟩
      change Seg _ _ _ _ _ _ _ _ _ ({ s0 with heap := h7, toks := tk6, gens := ((G.push gs).setIfInBounds G.size .running).setIfInBounds G.size .finished } : Shared)
      rw [push_set, push_set]
      refine seg_leaf (.ok .next) ?_
      rw [hk]
      show Seg _ _ _ _ _ _ _ ((execs [] _).wrap _ _ _ _) _ _
      refine seg_execs_nil (seg_end (.ok (.ret .none)) ⟨by rw [hn, hjK2, leftK_self]; rfl, rfl, h7, tk6, rfl, K5.trans fun b o q e => u67.at (FR6.1 b o (by simp) e (.inl ?_)) (by simp)⟩)
      rcases q with q | rfl | rfl
      · obtain ⟨o', ho'⟩ : ∃ o', s.heap.get? b = some o' := by
          cases e' : s.heap.get? b with
          | none => exact absurd e' q
          | some o' => exact ⟨o', rfl⟩
        rw [u0.at ho' (by simp)]; exact fun q => nomatch q
      · rw [hoS]; exact fun q => nomatch q
      · obtain ⟨o', ho'⟩ := hr2
        rw [ho']; exact fun q => nomatch q
    · exfalso
      rw [show T0.length - nI = j by omega] at ne er
      rcases Nat.lt_or_ge j K with z | z
      · exact hK.1 j z er
      · exact ne (by rw [show j = K by omega]; exact hK0)
end
end Mine
end

section
open PySem PySem.W PySem.Calls PyProof.Rows
set_option Elab.async false
set_option maxRecDepth 100000
namespace Mine

theorem push2_set (g : Array GenState) (a b c : GenState) : ((g.push a).push b).setIfInBounds g.size c = (g.push c).push b := by
  apply Array.ext_getElem?
  intro i
  rw [Array.getElem?_setIfInBounds, Array.getElem?_push, Array.getElem?_push, Array.getElem?_push, Array.getElem?_push]
  simp only [Array.size_push]
  split
  · rename_i h; subst h
    rw [if_pos (by omega), if_neg (by omega), if_pos rfl]
  · rename_i h
    by_cases h2 : i = g.size + 1
    · rw [if_pos h2, if_pos h2]
    · rw [if_neg h2, if_neg h2, if_neg (fun q => h q.symm), if_neg (fun q => h q.symm)]
theorem push2_get (g : Array GenState) (a b : GenState) : ((g.push a).push b)[g.size]? = some a := by
  rw [Array.getElem?_push, if_neg (by simp), push_get]
theorem ints_snoc {i : Int} {t : Tok} : ∀ {vs : List Value} {ns : List Int}, IntsAre vs ns → IntsAre (vs ++ [.int i t]) (ns ++ [i])
  | _, _, .nil => .cons i t .nil
  | _, _, .cons n u h => .cons n u (ints_snoc h)

section
variable {prog : Program} {w : World} {A : Around} {E : Value → Shared → Prop} {R : Result → Shared → Prop} {s : Shared}

theorem ext_loop {g0 : Array GenState} {flat : List Int} {S r : Addr} {hc : Heap} {res : Value} (hh : A.handled = none) (hroom : A.depth < recursionLimit) (Bc : Base (KK w) hc) (hfl : flat.length ≤ 1000) (hfS : hc.get? S = none) (hSr : S ≠ r)
    (hR : ∀ h' tk acc c, (∀ b o, hc.get? b = some o → h'.get? b = some o) → h'.get? S = some (seqObj "list" (List.toArray acc) c) → IntsAre acc flat → R (.ok (.ret res)) { s with heap := h', toks := tk, gens := (g0.push .finished).push .finished }) :
    ∀ (n : Nat) (h : Heap) (tk : Nat) (gg : Array GenState) (gs : GenState) (acc : List Value) (c : Nat), n ≤ flat.length → (gg = g0.push gs ∨ ∃ gI, gg = (g0.push gs).push gI) → h.IsGen r g0.size → (∀ b o, hc.get? b = some o → h.get? b = some o) →
      h.get? S = some (seqObj "list" acc.toArray c) → IntsAre acc (flat.take (flat.length - n)) →
      gs.Goes (model prog w) A.in1.in1 (SR hc S r (g0.push .running)) (SY hc S r (g0.push .running) flat) n (.send .none) (Shared.setGen { s with heap := h, toks := tk, gens := gg } g0.size .running) →
      codeAny (model prog w) A (.builtin "list.extend.loop" ⟨[.ref S, .ref r, res], []⟩) R { s with heap := h, toks := tk, gens := gg } := by
  intro n
  induction n with
  | zero =>
    intro h tk gg gs acc c hn hgg hg hk hS hacc hGo
    have hgs : gg[g0.size]? = some gs := by
      rcases hgg with rfl | ⟨gI, rfl⟩
      · exact push_get _ _
      · exact push2_get _ _ _
    refine codeAny_builtin F.entry_extend_loop ?_
    rw [Around.under_plainId F.plain_extend_loop _]
    show wpAny _ A.in1 (pyNext (.ref r) >>= _) _ _ _
    refine wpAny_bind (next_gen (A := A.in1) hh (Bc.nolimit.keeps hk) hroom hg hgs hGo (fun v s1 gs' hv => ?_) (fun r1 s1 hr => ?_))
    · obtain ⟨h', tk', gI, i, t, _, _, rfl, KK', _, hk'⟩ := hv
      exact (hk' { s with heap := h', toks := tk', gens := (g0.push .running).push gI } (Upto.refl _ _) ⟨_, KK' S _ (.inr (.inl rfl)) hS⟩ rfl).elim
    · obtain ⟨_, rfl, h', tk', rfl, KK'⟩ := hr
      refine .inl ⟨rfl, fun h7 u7 => ?_⟩
      refine wpAny_pure ?_
      show R _ { s with heap := h7, toks := tk', gens := ((g0.push .running).push .finished).setIfInBounds g0.size .finished }
      rw [push2_set]
      exact hR h7 tk' acc c (fun b o e => u7.at (KK' b o (.inl (by rw [e]; exact fun q => nomatch q)) (hk b o e)) (by simp)) (u7.at (KK' S _ (.inr (.inl rfl)) hS) (by simp)) (by simpa using hacc)
  | succ m ih =>
    intro h tk gg gs acc c hn hgg hg hk hS hacc hGo
    have hgs : gg[g0.size]? = some gs := by
      rcases hgg with rfl | ⟨gI, rfl⟩
      · exact push_get _ _
      · exact push2_get _ _ _
    refine codeAny_builtin F.entry_extend_loop ?_
    rw [Around.under_plainId F.plain_extend_loop _]
    show wpAny _ A.in1 (pyNext (.ref r) >>= _) _ _ _
    refine wpAny_bind (next_gen (A := A.in1) hh (Bc.nolimit.keeps hk) hroom hg hgs hGo (fun v s1 gs' hv => ?_) (fun r1 s1 hr => ?_))
    · obtain ⟨h', tk', gI, i, t, hi, rfl, rfl, KK', hle, hk'⟩ := hv
      have hS' := KK' S _ (.inr (.inl rfl)) hS
      replace hi : flat[flat.length - (m + 1)]? = some i := hi
      have hal : acc.length ≤ 1000 := by rw [hacc.length, List.length_take]; omega
      show wpAny _ A.in1 (updateSeq S (·.push (.int i t)) >>= _) _ _ _
      refine wpAny_bind (wpAny_updateSeq hS' rfl (wpAny_pure ⟨plainId_quiet F.plain_extend_loop _, ?_⟩) (by rw [List.size_toArray, sizeLine_eq]; omega) (by show (acc.toArray.push _).size ≤ sizeLine + 1; rw [Array.size_push, List.size_toArray, sizeLine_eq]; omega))
      have hS2 := get?_update_seq hS' (·.push (.int i t))
      have u2 : Upto [S] h' (h'.update S (Obj.mapSeq (·.push (.int i t)))) := Upto.same (Heap.SameBut.update ..) (.head _)
      show codeAny _ _ _ R ({ s with heap := h'.update S (Obj.mapSeq (·.push (.int i t))), toks := tk', gens := ((g0.push .running).push gI).setIfInBounds g0.size gs' } : Shared)
      rw [push2_set]
      obtain ⟨ob, nm, qn, hob, rr⟩ := id hg
      refine ih _ _ _ gs' (acc ++ [.int i t]) _ (by omega) (.inr ⟨gI, rfl⟩) ⟨ob, nm, qn, u2.at (KK' r _ (.inr (.inr rfl)) hob) (by simpa using hSr.symm), rr⟩ (fun b o e => u2.at (KK' b o (.inl (by rw [e]; exact fun q => nomatch q)) (hk b o e)) (by simpa using ne_of_none e hfS)) (by rw [hS2]; simp; rfl) ?_ (hk' _ u2 ⟨_, hS2⟩ ?_)
      · rw [show flat.length - m = (flat.length - (m + 1)) + 1 by omega, List.take_add_one, hi]
        exact ints_snoc hacc
      · show ((g0.push gs').push gI).setIfInBounds g0.size .running = _
        rw [push2_set]
    · obtain ⟨h0, _⟩ := hr
      cases h0

/-- list(sort(..)) -/
theorem call_list_sort {g0 : Array GenState} {gs0 : GenState} {flat : List Int} {r : Addr} {hc : Heap} {Q : Value → Shared → Prop} (hh : A.handled = none) (hroom : A.depth < recursionLimit) (Bc : Base (KK w) hc) (hfl : flat.length ≤ 1000)
    (hgens : s.gens = g0.push gs0) (hg : s.heap.IsGen r g0.size) (hk : Upto [] hc s.heap)
    (hGo : ∀ (s'' : Shared) (S0 : Addr), Upto [] s.heap s''.heap → s.heap.get? S0 = none → (∃ o, s''.heap.get? S0 = some o) → s''.gens = g0.push .running →
      gs0.Goes (model prog w) A.in1.in1.in1 (SR hc S0 r (g0.push .running)) (SY hc S0 r (g0.push .running) flat) flat.length (.send .none) s'')
    (h : ∀ h' tk S vs, Upto [] hc h' → hc.get? S = none → h'.IsList S (List.toArray vs) → IntsAre vs flat → Q (.ref S) { s with heap := h', toks := tk, gens := (g0.push .finished).push .finished }) :
    wpAny (model prog w) A (call (.type "list") [.ref r]) Q E s := by
  have fS : s.heap.get? s.heap.objs.size = none := get_none_size
  obtain ⟨og, nm, qn, hog, hog2⟩ := id hg
  have hSr : s.heap.objs.size ≠ r := (ne_of_none hog fS).symm
  refine callType_codes (Q₁ := fun obj s₁ => obj = .ref s.heap.objs.size ∧ s₁ = { s with heap := s.heap.push { cls := .type "list", data := .seq #[] } }) F.called_list (F.typeCall_list_1 _) F.entry_list_init
    (code_list_new _ ⟨rfl, rfl⟩) fun obj s₁ h₁ => ?_
  obtain ⟨rfl, rfl⟩ := h₁
  have hS : (s.heap.push { cls := .type "list", data := .seq #[] }).get? s.heap.objs.size = some { cls := .type "list", data := .seq #[] } := Heap.get?_push_size _ rfl
  refine ⟨⟨_, hS, rfl⟩, F.args_list_init_2 _ _, ?_⟩
  have hog1 : (s.heap.push { cls := .type "list", data := .seq #[] }).get? r = some og := Heap.get?_push_of_some _ hog
  have u1 : Upto [] s.heap (s.heap.push { cls := .type "list", data := .seq #[] }) := Upto.push _
  generalize s.heap.push { cls := .type "list", data := .seq #[] } = h1 at hS hog1 u1 ⊢
  generalize hSe : s.heap.objs.size = S at fS hSr hS ⊢
  have hTg : ∀ h2, Upto [S] h1 h2 → ({ s with heap := h2 } : Shared).TypeIs (.ref r) "generator" := fun h2 u => ⟨og, u.at hog1 (by simpa using hSr.symm), hog2.1⟩
  show wpAny _ _ (do let old ← Builtin.List.listItems (.ref S); Builtin.List.listUpdate (.ref S) (fun _ => #[]); letGo old.toList.reverse; Builtin.List.listExtendWith (.ref S) (.ref r) .none) _ _ _
  refine wpAny_bind ?_
  unfold Builtin.List.listItems
  refine wpAny_bind (wpAny_seqItems hS rfl (wpAny_pure ?_))
  show wpAny _ _ (updateSeq S (fun _ => #[]) >>= fun _ => letGo (#[] : Array Value).toList.reverse >>= fun _ => Builtin.List.listExtendWith (.ref S) (.ref r) .none) _ _ _
  refine wpAny_bind (wpAny_updateSeq hS rfl ?_)
  have hS2 := Heap.get?_update_self (Obj.mapSeq (fun _ => (#[] : Array Value))) hS rfl
  have u2 : Upto [S] h1 (h1.update S (Obj.mapSeq (fun _ => (#[] : Array Value)))) := Upto.same (Heap.SameBut.update ..) (.head _)
  generalize h1.update S (Obj.mapSeq (fun _ => (#[] : Array Value))) = h2 at hS2 u2 ⊢
  refine wpAny_bind (wpAny_letGo ?_)
  unfold Builtin.List.listExtendWith
  refine wpAny_bind (wpAny_typeOf (hTg h2 u2) ?_)
  have n1 : Builtin.List.listSameRef (.ref S) (.ref r) = false := by simp [Builtin.List.listSameRef, hSr]
  have n2 : (Value.type "generator" == Value.type "list") = false := by decide
  have n3 : (Value.type "generator" == Value.type "tuple") = false := by decide
  simp only [n1, n2, n3, Bool.or_false, Bool.false_eq_true, if_false]
  have hg2 : h2.IsGen r g0.size := ⟨og, nm, qn, u2.at hog1 (by simpa using hSr.symm), hog2⟩
  refine wpAny_bind (wpAny_pyIter_gen hg2 ?_)
  refine wpAny_bind (wpAny_holding ?_)
  unfold Builtin.List.listLengthHint
  refine wpAny_bind (wpAny_specialOf (hTg h2 u2) F.gen_no_len ?_)
  show wpAny _ _ (specialOf (Value.ref r) (Str.ofString "__length_hint__") >>= _) _ _ _
  refine wpAny_bind (wpAny_specialOf (hTg h2 u2) F.gen_no_hint ?_)
  refine wpAny_pure ?_
  show wpAny _ _ (rule "list.extend.makes-room" >>= fun _ => Builtin.List.listTouch (.ref S) >>= fun _ =>
    again (.builtin "list.extend.loop" ⟨[.ref S, .ref r, .none], []⟩)) _ _ _
  refine wpAny_bind (wpAny_rule ?_)
  refine wpAny_bind ?_
  show wpAny _ _ (updateSeq S (·.push .none) >>= fun _ => updateSeq S (·.pop)) _ _ _
  refine wpAny_bind (wpAny_updateSeq hS2 rfl ?_)
  have hS3 := Heap.get?_update_self (Obj.mapSeq (·.push Value.none)) hS2 rfl
  have u3 : Upto [S] h2 (h2.update S (Obj.mapSeq (·.push Value.none))) := Upto.same (Heap.SameBut.update ..) (.head _)
  generalize h2.update S (Obj.mapSeq (·.push Value.none)) = h3 at hS3 u3 ⊢
  refine wpAny_updateSeq (hz := by seq_fits) hS3 rfl ?_
  have hS4 := Heap.get?_update_self (Obj.mapSeq (·.pop)) hS3 rfl
  have u4 : Upto [S] h3 (h3.update S (Obj.mapSeq (·.pop))) := Upto.same (Heap.SameBut.update ..) (.head _)
  generalize h3.update S (Obj.mapSeq (·.pop)) = h4 at hS4 u4 ⊢
  have u14 : Upto [S] h1 h4 := (u2.trans u3).trans u4
  have us4 : Upto [] s.heap h4 := fun b o _ e => u14.at (u1.at e (by simp)) (by simpa using ne_of_none e fS)
  have uc4 : Upto [] hc h4 := hk.trans us4
  have hfS : hc.get? S = none := none_of hk fS
  refine wpAny_pure ⟨plainId_quiet F.plain_extend_loop _, ?_⟩
  refine ext_loop (s := s) (A := A.in1) (g0 := g0) hh (by show A.depth < _; exact hroom) Bc hfl hfS hSr ?_ flat.length h4 _ s.gens gs0 [] _ (Nat.le_refl _) (.inl hgens) ⟨og, nm, qn, u14.at hog1 (by simpa using hSr.symm), hog2⟩ (fun b o e => uc4 b o (by simp) e) hS4 (by rw [Nat.sub_self]; exact .nil) ?_
  · intro h' tk acc c k1 hS' ia
    exact ⟨rfl, h h' tk S acc (fun b o _ e => k1 b o e) hfS ⟨_, hS', rfl, _, rfl⟩ ia⟩
  · refine hGo _ S us4 fS ⟨_, hS4⟩ ?_
    show s.gens.setIfInBounds g0.size .running = _
    rw [hgens, push_set]
end
end Mine
end

section
open PySem PySem.W PySem.Calls PyProof.Rows
set_option Elab.async false
set_option maxRecDepth 100000
namespace Mine

/-- data that can be laid down, not deep, and equal to itself -/
structure Plain (k : Nat) (d : PyData) : Prop where
  lay : d.canLay0 = true
  dep : d.depth ≤ k
  same : PyData.eqv d d = true
theorem Plain.int {k : Nat} (i : Int) : Plain k (.int i) := ⟨by simp only [PyData.canLay0], by simp only [PyData.depth]; omega, by simp only [PyData.eqv]; exact beq_self_eq_true i⟩
theorem Plain.none {k : Nat} : Plain k .none := ⟨by simp only [PyData.canLay0], by simp only [PyData.depth]; omega, by simp only [PyData.eqv]⟩
theorem plain_all {k : Nat} : ∀ {xs : List PyData}, (∀ x, x ∈ xs → Plain k x) → PyData.canLayAll0 xs = true ∧ PyData.depthAll xs ≤ k ∧ PyData.eqvAll xs xs = true
  | [], _ => ⟨by simp only [PyData.canLayAll0], by simp only [PyData.depthAll]; omega, by simp only [PyData.eqvAll]⟩
  | x :: xs, h => by
    obtain ⟨h1, h2, h3⟩ := plain_all fun y hy => h y (.tail _ hy)
    have p := h x (.head _)
    refine ⟨by simp only [PyData.canLayAll0, p.lay, h1, Bool.and_self], by simp only [PyData.depthAll]; have := p.dep; omega, by simp only [PyData.eqvAll, p.same, h3, Bool.and_self]⟩
theorem Plain.list {k : Nat} {xs : List PyData} (h : ∀ x, x ∈ xs → Plain k x) : Plain (k + 1) (.list xs) :=
  let ⟨h1, h2, h3⟩ := plain_all h
  ⟨by simp only [PyData.canLay0, h1], by simp only [PyData.depth]; omega, by simp only [PyData.eqv, h3]⟩
theorem Plain.tuple {k : Nat} {xs : List PyData} (h : ∀ x, x ∈ xs → Plain k x) : Plain (k + 1) (.tuple xs) :=
  let ⟨h1, h2, h3⟩ := plain_all h
  ⟨by simp only [PyData.canLay0, h1], by simp only [PyData.depth]; omega, by simp only [PyData.eqv, h3]⟩
theorem Plain.shaped {k : Nat} {d : PyData} (p : Plain k d) (hk : k ≤ 64) : SeqAt.shaped d = true := by
  unfold SeqAt.shaped
  rw [p.lay, Bool.true_and, decide_eq_true_eq]
  exact Nat.le_trans p.dep hk

def intsD (ns : List Int) : PyData := .list (ns.map .int)
def pairD (p : Int × Int) : PyData := .tuple [.int p.1, .int p.2]
def pairsD (ps : List (Int × Int)) : PyData := .list (ps.map pairD)
def layersD (ls : List (List Int)) : PyData := .list (ls.map intsD)
def optD {α : Type} (f : α → PyData) : Option α → PyData
  | some x => f x
  | none => .none
def walkD (ls : List (List Int)) (o : Option (List Int × List (Int × Int))) : PyData := .tuple [layersD ls, optD (fun x => intsD x.1) o, optD (fun x => pairsD x.2) o]
theorem plain_ints {k : Nat} (ns : List Int) : Plain (k + 1) (intsD ns) := .list fun x hx => by
  obtain ⟨n, _, rfl⟩ := List.mem_map.mp hx
  exact .int n
theorem plain_pair {k : Nat} (p : Int × Int) : Plain (k + 1) (pairD p) := .tuple fun x hx => by
  rcases List.mem_cons.mp hx with rfl | hx
  · exact .int _
  · rw [List.mem_singleton.mp hx]; exact .int _
theorem plain_pairs {k : Nat} (ps : List (Int × Int)) : Plain (k + 2) (pairsD ps) := .list fun x hx => by
  obtain ⟨n, _, rfl⟩ := List.mem_map.mp hx
  exact plain_pair n
theorem plain_layers {k : Nat} (ls : List (List Int)) : Plain (k + 2) (layersD ls) := .list fun x hx => by
  obtain ⟨n, _, rfl⟩ := List.mem_map.mp hx
  exact plain_ints n
theorem plain_walk {ls : List (List Int)} {o : Option (List Int × List (Int × Int))} : Plain 3 (walkD ls o) := .tuple fun x hx => by
  simp only [List.mem_cons, List.not_mem_nil, or_false] at hx
  rcases hx with rfl | rfl | rfl
  · exact plain_layers _
  · cases o with
    | none => exact .none
    | some x => exact plain_ints _
  · cases o with
    | none => exact .none
    | some x => exact plain_pairs _

theorem readsAll_ints {h : Heap} : ∀ {vs : List Value} {ns : List Int}, IntsAre vs ns → ReadsAll h vs (ns.map .int) []
  | _, _, .nil => .nil
  | _, _, .cons n t r => .cons (bs := []) (.int n t) (readsAll_ints r)
theorem reads_ints {h : Heap} {a : Addr} {vs : List Value} {ns : List Int} (hl : h.IsList a vs.toArray) (i : IntsAre vs ns) : ∃ as, Reads h (.ref a) (intsD ns) as := by
  obtain ⟨o, ho, hc, n, hd⟩ := hl
  exact ⟨_, .list ho hc hd (readsAll_ints i)⟩
theorem reads_pair {h : Heap} {r : Addr} {p : Int × Int} (t : TupAt h r p) : ∃ as, Reads h (.ref r) (pairD p) as := by
  obtain ⟨o, n, t, u, ho, hc, hd⟩ := t
  exact ⟨_, .tuple ho hc hd (.cons (.int _ t) (.cons (.int _ u) .nil))⟩
theorem readsAll_pairs {h : Heap} : ∀ {rs : List Addr} {ps : List (Int × Int)}, Tups h rs ps → ∃ as, ReadsAll h (rs.map Value.ref) (ps.map pairD) as
  | [], [], _ => ⟨_, .nil⟩
  | [], _ :: _, h => h.elim
  | _ :: _, [], h => h.elim
  | _ :: _, _ :: _, ⟨t, r⟩ => by
    obtain ⟨_, x⟩ := reads_pair t
    obtain ⟨_, y⟩ := readsAll_pairs r
    exact ⟨_, .cons x y⟩
theorem reads_pairs {h : Heap} {a : Addr} {rs : List Addr} {ps : List (Int × Int)} (hl : h.IsList a (rs.map Value.ref).toArray) (t : Tups h rs ps) : ∃ as, Reads h (.ref a) (pairsD ps) as := by
  obtain ⟨o, ho, hc, n, hd⟩ := hl
  obtain ⟨_, x⟩ := readsAll_pairs t
  exact ⟨_, .list ho hc hd x⟩
theorem readsAll_layers {h : Heap} : ∀ {as : List Addr} {ls : List (List Int)}, Lays h as ls → ∃ bs, ReadsAll h (as.map Value.ref) (ls.map intsD) bs
  | [], [], _ => ⟨_, .nil⟩
  | [], _ :: _, h => h.elim
  | _ :: _, [], h => h.elim
  | _ :: _, _ :: _, ⟨⟨vs, p, i⟩, r⟩ => by
    obtain ⟨_, x⟩ := reads_ints p.list i
    obtain ⟨_, y⟩ := readsAll_layers r
    exact ⟨_, .cons x y⟩
theorem reads_layers {h : Heap} {a : Addr} {as : List Addr} {ls : List (List Int)} (hl : PL h a (as.map Value.ref)) (t : Lays h as ls) : ∃ bs, Reads h (.ref a) (layersD ls) bs := by
  obtain ⟨o, ho, hc, n, hd⟩ := hl.list
  obtain ⟨_, x⟩ := readsAll_layers t
  exact ⟨_, .list ho hc hd x⟩

/-- sorted lists with the same members are the same -/
theorem sorted_unique {α : Type} {f : α → Int} : ∀ {xs ys : List α}, (xs.map f).Pairwise (· < ·) → (ys.map f).Pairwise (· < ·) → (∀ x, x ∈ xs ↔ x ∈ ys) → xs = ys
  | [], [], _, _, _ => rfl
  | [], y :: _, _, _, h => absurd ((h y).mpr (.head _)) List.not_mem_nil
  | x :: _, [], _, _, h => absurd ((h x).mp (.head _)) List.not_mem_nil
  | x :: xs, y :: ys, hx, hy, h => by
    rw [List.map_cons, List.pairwise_cons] at hx hy
    have e : x = y := by
      rcases List.mem_cons.mp ((h x).mp (.head _)) with q | q
      · exact q
      · rcases List.mem_cons.mp ((h y).mpr (.head _)) with q' | q'
        · exact q'.symm
        · have a := hy.1 _ (List.mem_map_of_mem q)
          have b := hx.1 _ (List.mem_map_of_mem q')
          omega
    subst e
    have nx : x ∉ xs := fun q => by have := hx.1 _ (List.mem_map_of_mem q); omega
    have ny : x ∉ ys := fun q => by have := hy.1 _ (List.mem_map_of_mem q); omega
    rw [sorted_unique hx.2 hy.2 fun z => ?_]
    constructor
    · intro hz
      rcases List.mem_cons.mp ((h z).mp (.tail _ hz)) with q | q
      · rw [q] at hz; exact absurd hz nx
      · exact q
    · intro hz
      rcases List.mem_cons.mp ((h z).mpr (.tail _ hz)) with q | q
      · rw [q] at hz; exact absurd hz ny
      · exact q
theorem sorted_ints {xs ys : List Int} (hx : xs.Pairwise (· < ·)) (hy : ys.Pairwise (· < ·)) (h : ∀ x, x ∈ xs ↔ x ∈ ys) : xs = ys :=
  sorted_unique (f := id) (by simpa using hx) (by simpa using hy) h

/-- what a walk tells, as data -/
theorem Walked.reads {h : Heap} {r : Addr} {ps : List (Int × Int)} {T0 : List Int} (W : Walked h r ps T0) : ∃ t as k v1 v2 o bs, h.IsTuple r #[.ref t, v1, v2] ∧ PL h t (List.map Value.ref as) ∧ Lays h as (layersTo ps T0 k) ∧ Lay ps T0 k ∧ Reads h (.ref r) (walkD (layersTo ps T0 k) o) bs ∧
    ((o = none ∧ todoAt ps T0 k = [] ∧ v1 = .none ∧ v2 = .none) ∨ ∃ ns qs rc rd cs, o = some (ns, qs) ∧ todoAt ps T0 k ≠ [] ∧ v1 = .ref rc ∧ v2 = .ref rd ∧ ns.Pairwise (· < ·) ∧ (∀ n, n ∈ ns ↔ Path (fOf ps) n n) ∧ (qs.map code).Pairwise (· < ·) ∧ (∀ p, p ∈ qs ↔ p ∈ ps) ∧ Reads h (.ref rd) (pairsD qs) cs) := by
  obtain ⟨t, as, k, v1, v2, ht, pt, la, lk, hc⟩ := W
  obtain ⟨o, ho, hcl, n, hd⟩ := id ht
  obtain ⟨_, x1⟩ := reads_layers pt la
  rcases hc with ⟨e1, rfl, rfl⟩ | ⟨e1, rc, rd, vs, ns, rs, ps', rfl, rfl, Lc, Ic, pc, mc, Ld, Td, pd, md⟩
  · exact ⟨t, as, k, _, _, none, _, ht, pt, la, lk, .tuple ho hcl hd (.cons x1 (.cons .none (.cons .none .nil))), .inl ⟨rfl, e1, rfl, rfl⟩⟩
  · obtain ⟨_, x2⟩ := reads_ints Lc Ic
    obtain ⟨_, x3⟩ := reads_pairs Ld Td
    exact ⟨t, as, k, _, _, some (ns, ps'), _, ht, pt, la, lk, .tuple ho hcl hd (.cons x1 (.cons x2 (.cons x3 .nil))), .inr ⟨ns, ps', rc, rd, _, rfl, e1, rfl, rfl, pc, mc, pd, md, x3⟩⟩
theorem path_congr {ps ps' : List (Int × Int)} (h : ∀ p, p ∈ ps ↔ p ∈ ps') {x y : Int} (p : Path (fOf ps) x y) : Path (fOf ps') x y := Path.congr (fun k x => by rw [mem_fOf, mem_fOf]; exact h _) p
theorem Walked.two {h : Heap} {r r' : Addr} {ps ps' : List (Int × Int)} {T0 : List Int} (e : ∀ p, p ∈ ps ↔ p ∈ ps') (W : Walked h r ps T0) (W' : Walked h r' ps' T0) :
    ∃ t as k v1 v2 o bs bs', h.IsTuple r #[.ref t, v1, v2] ∧ PL h t (List.map Value.ref as) ∧ Lays h as (layersTo ps T0 k) ∧ Lay ps T0 k ∧ Reads h (.ref r) (walkD (layersTo ps T0 k) o) bs ∧ Reads h (.ref r') (walkD (layersTo ps T0 k) o) bs' ∧
    ((o = none ∧ todoAt ps T0 k = [] ∧ v1 = .none ∧ v2 = .none) ∨ ∃ ns qs rc rd cs, o = some (ns, qs) ∧ todoAt ps T0 k ≠ [] ∧ v1 = .ref rc ∧ v2 = .ref rd ∧ ns.Pairwise (· < ·) ∧ (∀ n, n ∈ ns ↔ Path (fOf ps) n n) ∧ (qs.map code).Pairwise (· < ·) ∧ (∀ p, p ∈ qs ↔ p ∈ ps) ∧ Reads h (.ref rd) (pairsD qs) cs) := by
  obtain ⟨t, as, k, v1, v2, o, bs, ht, pt, la, lk, R, hc⟩ := W.reads
  obtain ⟨_, _, k', _, _, o', bs', _, _, _, lk', R', hc'⟩ := W'.reads
  have hk : k' = k := (lk'.congr fun p => (e p).symm).unique lk
  subst hk
  rw [layersTo_congr (fun p => (e p).symm)] at R'
  have ho : o' = o := by
    rcases hc with ⟨rfl, e1, _⟩ | ⟨ns, qs, _, _, _, rfl, e1, _, _, a1, a2, a3, a4, _⟩
    · rcases hc' with ⟨rfl, _⟩ | ⟨_, _, _, _, _, _, e1', _⟩
      · rfl
      · rw [todoAt_congr (fun p => (e p).symm)] at e1'
        exact absurd e1 e1'
    · rcases hc' with ⟨_, e1', _⟩ | ⟨ns', qs', _, _, _, rfl, _, _, _, b1, b2, b3, b4, _⟩
      · rw [todoAt_congr (fun p => (e p).symm)] at e1'
        exact absurd e1' e1
      · rw [sorted_ints b1 a1 fun n => ?_, sorted_unique b3 a3 fun p => (b4 p).trans ((e p).symm.trans (a4 p).symm)]
        rw [b2, a2]
        exact ⟨path_congr fun p => (e p).symm, path_congr e⟩
  rw [ho] at R'
  exact ⟨t, as, k', v1, v2, o, bs, bs', ht, pt, la, lk, R, R', hc⟩
end Mine
end

section
open PySem PySem.W PySem.Calls PyProof.Rows
set_option Elab.async false
set_option maxRecDepth 100000
namespace Mine

section
variable {prog : Program} {w : World} {A : Around} {E : Value → Shared → Prop} {s : Shared} {env : Env}

theorem call_append_pl {a : Addr} {vs : List Value} {v : Value} {Q : Value → Shared → Prop} (p : PL s.heap a vs) (hsz : vs.length ≤ 1000) (h : ∀ h', PL h' a (vs ++ [v]) → Heap.SameBut a s.heap h' → Q .none { s with heap := h' }) :
    wpAny (model prog w) A (call (.builtin "list.append") [.ref a, v]) Q E s := by
  obtain ⟨n2, ho2⟩ := p
  refine wpAny_call_entry PySem.F.slot_list_append ⟨_, ho2, rfl⟩ PySem.F.entry_list_append ?_ (PySem.F.args_list_append_2 _ _)
  show wpAny _ _ (updateSeq a (·.push v) >>= fun _ => ret .none) _ _ s
  have g := get?_update_seq ho2 (·.push v)
  have g' : PL (s.heap.update a (Obj.mapSeq (·.push v))) a (vs ++ [v]) := ⟨_, by simpa using g⟩
  refine wpAny_bind (wpAny_updateSeq ho2 rfl (wpAny_pure ⟨.none, rfl, h _ g' (Heap.SameBut.update ..)⟩) (by rw [List.size_toArray, sizeLine_eq]; omega) (by show (vs.toArray.push v).size ≤ sizeLine + 1; rw [Array.size_push, List.size_toArray, sizeLine_eq]; omega))

/-- a list comprehension, up to its loop, its list used in place or bound to a name -/
theorem listComp_gen {elt target iter : Expr} {ifs : List Expr} {rest : List Comprehension} {scope : Scope} {pos : Pos} {cl : List (Str × Addr)} {use : Option (Value → Sem Unit)} {Q : Value → Shared → Prop}
    (hclos : closureFor scope env = pure cl) (hcell : ∀ y ∈ scope.names, y.2 ≠ .cell) (hkind : scope.kind = .function) (hnames : ∀ y ∈ scope.names, y.2 = .local → scope.names.lookup y.1 = some .local)
    (h : wpAny (model prog w) A (eval iter env) (fun x s1 => wpAny (model prog w) A (pyIter x) (fun it s2 => ∀ h3 tk3 acc C, Upto [] s2.heap h3 → s2.heap.get? acc = none → s2.heap.get? C = none → acc ≠ C → PL h3 acc [] → Loc h3 C [] →
      codeAny (model prog w) A (.compStart (.ListComp elt (⟨target, iter, ifs, 0⟩ :: rest) scope pos) 0 it (.ref acc) (compEnvC scope cl C env)) (compPost (model prog w) A E use Q (.ref acc) C) { s2 with heap := h3, toks := tk3 }) E s1) E s)
    (hs : ∀ x, foldedSetIterable iter env x = pure x := by intro _; rfl) :
    wpAny (model prog w) A (comprehension (.ListComp elt (⟨target, iter, ifs, 0⟩ :: rest) scope pos) scope env (firstIterPos (⟨target, iter, ifs, 0⟩ :: rest) pos) (newList []) false (eval iter env) use) Q E s := by
  refine wpAny_comprehension_free (use := use) rfl hs hclos hkind hnames (wpAny_mono h (fun xv s₁ h₁ => wpAny_mono h₁ (fun it s₂ h₂ => ?_) fun _ _ e => e) fun _ _ e => e)
  refine wpAny_newObj_type (comp_env hcell hkind fun h' tk u l => ?_)
  generalize hob : ({ cls := Value.type "list", dict := none, data := Data.seq ([] : List Value).toArray } : Obj) = ob at u l ⊢
  have ha : (s₂.heap.push ob).get? s₂.heap.objs.size = some ob := Heap.get?_push_size _ (by rw [← hob]; rfl)
  have hsz : (s₂.heap.push ob).objs.size = s₂.heap.objs.size + 1 := Heap.size_push ..
  refine h₂ h' tk s₂.heap.objs.size (s₂.heap.push ob).objs.size (fun b o hb e => u b o hb (Heap.get?_push_of_some _ e)) get_none_size ?_ ?_ ⟨0, by rw [u.at ha (by simp), ← hob]⟩ l
  · cases e : s₂.heap.get? (s₂.heap.push ob).objs.size with
    | none => rfl
    | some o => have := Heap.lt_size e; rw [hsz] at this; exact absurd this (Nat.not_lt.mpr (Nat.le_succ _))
  · rw [hsz]; exact Nat.ne_of_lt (Nat.lt_succ_self _)
theorem listComp_eval {elt target iter : Expr} {ifs : List Expr} {rest : List Comprehension} {scope : Scope} {pos : Pos} {Q : Value → Shared → Prop}
    (h : wpAny (model prog w) A (comprehension (.ListComp elt (⟨target, iter, ifs, 0⟩ :: rest) scope pos) scope env (firstIterPos (⟨target, iter, ifs, 0⟩ :: rest) pos) (newList []) false (eval iter env) none) Q E s) :
    wpAny (model prog w) A (eval (.ListComp elt (⟨target, iter, ifs, 0⟩ :: rest) scope pos) env) Q E s := h
theorem listComp_assign {elt target iter : Expr} {ifs : List Expr} {rest : List Comprehension} {scope : Scope} {pos spos py : Pos} {y : Str} {Q : Flow → Shared → Prop}
    (hsw : swapsWith (.ListComp elt (⟨target, iter, ifs, 0⟩ :: rest) scope pos) (some (.Name y py)) spos.line env = pure true)
    (h : wpAny (model prog w) A (comprehension (.ListComp elt (⟨target, iter, ifs, 0⟩ :: rest) scope pos) scope env (firstIterPos (⟨target, iter, ifs, 0⟩ :: rest) pos) (newList []) false (eval iter env) (some (assign (.Name y py) env))) (fun _ s' => Q .next s') E s) :
    wpAny (model prog w) A (exec (.Assign [.Name y py] (.ListComp elt (⟨target, iter, ifs, 0⟩ :: rest) scope pos) spos) env) Q E s := by
  rw [exec_Assign_Name_used _ _ _ _ hsw]
  refine wpAny_bind (wpAny_standAt (wpAny_bind ?_))
  show wpAny _ A (do let _ ← comprehension (.ListComp elt (⟨target, iter, ifs, 0⟩ :: rest) scope pos) scope env _ (newList []) false (eval iter env) (some (assign (.Name y py) env))) _ _ s
  exact wpAny_bind (wpAny_mono h (fun _ s' hq => wpAny_pure (wpAny_pure hq)) fun _ _ e => e)

/-- the list bound to its name -/
theorem compPost_assign {y : Str} {py : Pos} {f : Flow} {C : Addr} {acc : Addr} {bs : List (Str × Value)} {bc : List (Str × Value)} {Q : Shared → Prop} (l : Loc s.heap env.locals bs) (lc : Loc s.heap C bc) (hC : C ≠ env.locals)
    (h : ∀ h' tk, Loc h' env.locals ((y, .ref acc) :: bs) → Upto [env.locals, C] s.heap h' → Q { s with heap := h', toks := tk })
    (hl : env.kindOf y = some .local := by rfl) (hp : (env.scope.kind == .class || (env.scope.kind == .module && env.locals != env.globals)) = false := by rfl) :
    compPost (model prog w) A E (some (assign (.Name y py) env)) (fun _ s' => Q s') (.ref acc) C (.ok f) s := by
  show wpAny _ A (assign (.Name y py) env (.ref acc)) _ _ _
  refine wpAny_assign_Name (stL l (fun h1 l1 sb1 => ?_) hl hp)
  have u1 : Upto [env.locals] s.heap h1 := Upto.same sb1 (.head _)
  obtain ⟨m, hm⟩ := (lc.at u1 (by simpa using hC)).ns
  refine ⟨m, hm, fun h' sb => h h' _ (l1.at (Upto.same sb (.head [])) (by simpa using hC.symm)) ?_⟩
  exact (u1.mono (by simp)).trans ((Upto.same sb (.head [])).mono (by simp))
theorem compPost_cell {f : Flow} {C : Addr} {acc : Addr} {bc : List (Str × Value)} {Q : Value → Shared → Prop} (lc : Loc s.heap C bc) (h : ∀ h', Upto [C] s.heap h' → Q (.ref acc) { s with heap := h' }) :
    compPost (model prog w) A E none Q (.ref acc) C (.ok f) s := by
  obtain ⟨m, hm⟩ := lc.ns
  exact ⟨m, hm, fun h' sb => h h' (Upto.same sb (.head _))⟩

/-- a list comprehension of one clause, without a test -/
theorem listComp_loop {elt target iter : Expr} {scope : Scope} {pos : Pos} {cenv : Env} {acc C I : Addr} {fp wr : List Addr} {n : Nat} {P : Nat → Value → Prop} {St : Nat → Heap → Prop} {R : Result → Shared → Prop} (Acc : Nat → List Value → Heap → Prop)
    (W : Walks prog w A I fp wr n P St) (st0 : St 0 s.heap) (hn : n ≤ 1000) (pa : PL s.heap acc []) (lc : Loc s.heap C []) (haw : acc ∉ fp) (hCw : C ∉ fp) (haC : acc ≠ C)
    (a0 : Acc 0 [] s.heap) (aw : ∀ i vs h h', Acc i vs h → Upto (acc :: C :: wr) h h' → Acc i vs h') (al : ∀ i vs h, Acc i vs h → vs.length ≤ i)
    (turn : ∀ i v (h1 : Heap) (tk1 : Nat) (vs : List Value) (Q' : Value → Shared → Prop) (E' : Value → Shared → Prop), i < n → P i v → St (i + 1) h1 → Upto (acc :: C :: wr) s.heap h1 → Loc h1 C [] → PL h1 acc vs → Acc i vs h1 →
      (∀ h5 tk5 v' bs, Upto [C] h1 h5 → Loc h5 C bs → Acc (i + 1) (vs ++ [v']) h5 → Q' v' { s with heap := h5, toks := tk5 }) →
      wpAny (model prog w) A (letOwnedTupleGo target (.ref I) v) (fun _ s2 => wpAny (model prog w) A (assign target cenv v) (fun _ s3 => wpAny (model prog w) A (eval elt cenv) Q' E' s3) E' s2) E' { s with heap := h1, toks := tk1 })
    (done : ∀ h' tk vs, Upto (acc :: C :: wr) s.heap h' → Loc h' C [] → PL h' acc vs → Acc n vs h' → R (.ok .next) { s with heap := h', toks := tk }) :
    codeAny (model prog w) A (.compStart (.ListComp elt [⟨target, iter, [], 0⟩] scope pos) 0 (.ref I) (.ref acc) cenv) R s := by
  refine comp_start_w (IsComp.list _ _ _ _) rfl W st0 ?_
  refine comp_loop (IsComp.list _ _ _ _) W (J := fun i h => Upto (acc :: C :: wr) s.heap h ∧ Loc h C [] ∧ ∃ vs, PL h acc vs ∧ Acc i vs h) st0 ⟨Upto.refl _ _, lc, [], pa, a0⟩ ?_ (fun Q E s hx => comp_turn_last (IsComp.list _ _ _ _) rfl rfl hx) ?_ ?_
  · rintro i h h' ⟨u, lo, vs, p, ac⟩ v
    exact ⟨u.trans (v.mono fun b hb => .tail _ (.tail _ hb)), lo.at v fun q => hCw (W.sub _ q), vs, p.at v fun q => haw (W.sub _ q), aw _ _ _ _ ac (v.mono fun b hb => .tail _ (.tail _ hb))⟩
  · rintro i v h1 tk1 hi hv hst ⟨u1, l1, vs, p1, ac1⟩
    refine wpAny_mono (turn i v h1 tk1 vs (fun y s5 => ∃ h5 tk5 bs, s5 = { s with heap := h5, toks := tk5 } ∧ Upto [C] h1 h5 ∧ Loc h5 C bs ∧ Acc (i + 1) (vs ++ [y]) h5) _ hi hv hst u1 l1 p1 ac1 fun h5 tk5 v' bs u l a => ⟨h5, tk5, bs, rfl, u, l, a⟩) (fun _ s2 q => wpAny_mono q (fun _ s3 q => wpAny_pure ?_) fun _ _ e => e) fun _ _ e => e
    simp only [↓reduceIte]
    refine wpAny_bind (wpAny_mono q (fun y s5 q => ?_) fun _ _ e => e)
    obtain ⟨h5, tk5, bs, rfl, u5, l5, a5⟩ := q
    have p5 := p1.at u5 (by simpa using haC)
    refine wpAny_bind (call_append_pl p5 (by have := al _ _ _ ac1; omega) fun h6 p6 sb6 => wpAny_pure ⟨h6, tk5, rfl, ⟨?_, ?_, _, p6, ?_⟩, fun b hb o e => ?_⟩)
    · have u6 : Upto [acc] h5 h6 := Upto.same sb6 (.head _)
      exact u1.trans ((u5.mono (by simp)).trans (u6.mono (by simp)))
    · exact (l5.at (Upto.same sb6 (.head [])) (by simpa using haC.symm)).pick trivial
    · exact aw _ _ _ _ a5 ((Upto.same sb6 (.head [])).mono (by simp))
    · exact (Upto.same sb6 (.head [])).at (u5.at e (by simpa using fun q : b = C => hCw (q ▸ hb))) (by simpa using fun q : b = acc => haw (q ▸ hb))
  · rintro h' tk' ⟨u, lo, vs, p, ac⟩
    exact done h' tk' vs u lo p ac
end
end Mine
end

section
open PySem PySem.W PySem.Calls PyProof.Rows
set_option Elab.async false
set_option maxRecDepth 100000
namespace Mine

def rowOf (x : Int) : Int × Int := (x.fmod 6, (x.fdiv 6).fmod 6)
def rowsOf (ns : List Int) : List (Int × Int) := (ns.take 12).map rowOf
def turnOf : List Int → Int
  | [] => 0
  | x :: _ => x.fmod 6
def thingsOf (t : Int) : List Int := (List.range 6).map fun (k : Nat) => (t + (k : Int)).fmod 6
theorem six_mod (x : Int) : x.fmod 6 ∈ six := by
  have h1 : 0 ≤ x.fmod 6 := Int.fmod_nonneg_of_pos x (by decide)
  have h2 : x.fmod 6 < 6 := Int.fmod_lt_of_pos x (by decide)
  simp only [six, List.mem_cons, List.not_mem_nil, or_false]
  omega
theorem rows_small {ns : List Int} : ∀ p, p ∈ rowsOf ns → Small p := fun p hp => by
  obtain ⟨x, _, rfl⟩ := List.mem_map.mp hp
  exact ⟨six_mod _, six_mod _⟩
theorem rows_len (ns : List Int) : (rowsOf ns).length ≤ 12 := by
  unfold rowsOf
  rw [List.length_map]
  exact List.length_take_le ..
theorem things_six {t : Int} : ∀ n, n ∈ thingsOf t → n ∈ six := fun n hn => by
  obtain ⟨k, _, rfl⟩ := List.mem_map.mp hn
  exact six_mod _
theorem things_len (t : Int) : (thingsOf t).length = 6 := by unfold thingsOf; rw [List.length_map, List.length_range]

section
variable {prog : Program} {w : World} {A : Around} {E : Value → Shared → Prop} {R : Result → Shared → Prop} {s : Shared} {env : Env}

/-- f(..), f one of the program's own functions -/
theorem callV1 {x : Str} {p pos : Pos} {e1 : Expr} {a : Addr} {Q : Value → Shared → Prop}
    (h : wpAny (model prog w) A (eval (.Name x p) env) (fun f s1 => f = .ref a ∧ wpAny (model prog w) A (eval e1 env) (fun v1 s2 => (∃ fd o, s2.heap.get? a = some o ∧ o.data = .func fd) ∧ wpAny (model prog w) A (call (.ref a) [v1]) Q E s2) E s1) E s)
    (hs : starEach [e1] env = [(false, eval e1 env)] := by rfl) : wpAny (model prog w) A (eval (.Call (.Name x p) [e1] [] pos) env) Q E s := by
  refine Call_Name (by rw [hs]) (wpAny_mono h (fun f s1 h1 => ?_) fun _ _ e => e)
  obtain ⟨rfl, h1⟩ := h1
  unfold callWith
  refine wpAny_bind (wpAny_holding (evalArgs_plain (spliced_cons (wpAny_mono h1 (fun v1 s2 h2 => spliced_nil ?_) fun _ _ e => e))))
  obtain ⟨⟨fd, o, ho, hd⟩, hc⟩ := h2
  refine wpAny_bind (wpAny_standAt ?_)
  refine wpAny_bind (m := keeperOf (.ref a)) ?_
  unfold keeperOf
  refine wpAny_bind (wpAny_load ho ?_)
  rw [hd]
  refine wpAny_pure ?_
  refine wpAny_bind (wpAny_mono (Q := Q) (by unfold callMarked; exact wpAny_keep hc) (fun r s₂ hr => wpAny_bind (wpAny_holding (wpAny_point (wpAny_pure hr)))) fun _ _ x => x)
theorem callV2 {x : Str} {p pos : Pos} {e1 e2 : Expr} {a : Addr} {Q : Value → Shared → Prop}
    (h : wpAny (model prog w) A (eval (.Name x p) env) (fun f s1 => f = .ref a ∧ wpAny (model prog w) A (eval e1 env) (fun v1 s2 => wpAny (model prog w) A (eval e2 env) (fun v2 s3 => (∃ fd o, s3.heap.get? a = some o ∧ o.data = .func fd) ∧ wpAny (model prog w) A (call (.ref a) [v1, v2]) Q E s3) E s2) E s1) E s)
    (hs : starEach [e1, e2] env = [(false, eval e1 env), (false, eval e2 env)] := by rfl) : wpAny (model prog w) A (eval (.Call (.Name x p) [e1, e2] [] pos) env) Q E s := by
  refine Call_Name (by rw [hs]) (wpAny_mono h (fun f s1 h1 => ?_) fun _ _ e => e)
  obtain ⟨rfl, h1⟩ := h1
  unfold callWith
  refine wpAny_bind (wpAny_holding (evalArgs_plain (spliced_cons (wpAny_mono h1 (fun v1 s2 h2 => spliced_cons (wpAny_mono h2 (fun v2 s3 h3 => spliced_nil ?_) fun _ _ e => e)) fun _ _ e => e))))
  obtain ⟨⟨fd, o, ho, hd⟩, hc⟩ := h3
  refine wpAny_bind (wpAny_standAt ?_)
  refine wpAny_bind (m := keeperOf (.ref a)) ?_
  unfold keeperOf
  refine wpAny_bind (wpAny_load ho ?_)
  rw [hd]
  refine wpAny_pure ?_
  refine wpAny_bind (wpAny_mono (Q := Q) (by unfold callMarked; exact wpAny_keep hc) (fun r s₂ hr => wpAny_bind (wpAny_holding (wpAny_point (wpAny_pure hr)))) fun _ _ x => x)
theorem callV3 {x : Str} {p pos : Pos} {e1 e2 e3 : Expr} {a : Addr} {Q : Value → Shared → Prop}
    (h : wpAny (model prog w) A (eval (.Name x p) env) (fun f s1 => f = .ref a ∧ wpAny (model prog w) A (eval e1 env) (fun v1 s2 => wpAny (model prog w) A (eval e2 env) (fun v2 s3 => wpAny (model prog w) A (eval e3 env) (fun v3 s4 => (∃ fd o, s4.heap.get? a = some o ∧ o.data = .func fd) ∧ wpAny (model prog w) A (call (.ref a) [v1, v2, v3]) Q E s4) E s3) E s2) E s1) E s)
    (hs : starEach [e1, e2, e3] env = [(false, eval e1 env), (false, eval e2 env), (false, eval e3 env)] := by rfl) : wpAny (model prog w) A (eval (.Call (.Name x p) [e1, e2, e3] [] pos) env) Q E s := by
  refine Call_Name (by rw [hs]) (wpAny_mono h (fun f s1 h1 => ?_) fun _ _ e => e)
  obtain ⟨rfl, h1⟩ := h1
  unfold callWith
  refine wpAny_bind (wpAny_holding (evalArgs_plain (spliced_cons (wpAny_mono h1 (fun v1 s2 h2 => spliced_cons (wpAny_mono h2 (fun v2 s3 h3 => spliced_cons (wpAny_mono h3 (fun v3 s4 h4 => spliced_nil ?_) fun _ _ e => e)) fun _ _ e => e)) fun _ _ e => e))))
  obtain ⟨⟨fd, o, ho, hd⟩, hc⟩ := h4
  refine wpAny_bind (wpAny_standAt ?_)
  refine wpAny_bind (m := keeperOf (.ref a)) ?_
  unfold keeperOf
  refine wpAny_bind (wpAny_load ho ?_)
  rw [hd]
  refine wpAny_pure ?_
  refine wpAny_bind (wpAny_mono (Q := Q) (by unfold callMarked; exact wpAny_keep hc) (fun r s₂ hr => wpAny_bind (wpAny_holding (wpAny_point (wpAny_pure hr)))) fun _ _ x => x)
/-- o[k], k written -/
theorem sub_list {o : Expr} {kd : Nat} {cp sp : Pos} {k : Nat} {Q : Value → Shared → Prop} (hk : k ≤ 1000)
    (h : wpAny (model prog w) A (eval o env) (fun ov s1 => ∃ a vs v, ov = .ref a ∧ s1.heap.IsList a vs ∧ vs[k]? = some v ∧ ∀ tk, Q v { s1 with toks := tk }) E s) (ht : ∀ x r, letTemporaryGo o x r = pure () := by intro _ _; rfl) :
    wpAny (model prog w) A (eval (.Subscript o (.Constant (.int (k : Nat)) kd cp) sp) env) Q E s := by
  refine wpAny_Subscript_Constant_late (wpAny_mono h (fun ov s1 h1 => wpAny_Constant_int ?_) fun _ _ e => e) ht
  obtain ⟨a, vs, v, rfl, hl, hv, hQ⟩ := h1
  exact ⟨"list", "list.__getitem__", slot_list_getitem.lookup, hl.typeIs, wpAny_getItem_list hl (by omega) (by omega) (by rw [Int.toNat_natCast]; exact hv) (hQ _)⟩
theorem sub_tuple {o : Expr} {kd : Nat} {cp sp : Pos} {k : Nat} {Q : Value → Shared → Prop} (hk : k ≤ 1000)
    (h : wpAny (model prog w) A (eval o env) (fun ov s1 => ∃ a vs v, ov = .ref a ∧ s1.heap.IsTuple a vs ∧ vs[k]? = some v ∧ ∀ tk, Q v { s1 with toks := tk }) E s) (ht : ∀ x r, letTemporaryGo o x r = pure () := by intro _ _; rfl) :
    wpAny (model prog w) A (eval (.Subscript o (.Constant (.int (k : Nat)) kd cp) sp) env) Q E s := by
  refine wpAny_Subscript_Constant_late (wpAny_mono h (fun ov s1 h1 => wpAny_Constant_int ?_) fun _ _ e => e) ht
  obtain ⟨a, vs, v, rfl, hl, hv, hQ⟩ := h1
  obtain ⟨ob, ho, hc, n, hd⟩ := hl
  have hT : IsTup s1.heap a vs := ⟨ob, ho, hc, n, hd⟩
  refine ⟨"tuple", "tuple.__getitem__", slot_tuple_getitem.lookup, hT.typeIs, getItem_tuple (j := k) hT (by omega) (by omega) ?_ hv (hQ _)⟩
  have hlt : k < vs.size := (Array.getElem?_eq_some_iff.mp hv).1
  unfold seqIndex?
  simp
  omega

/-- script[:12] -/
theorem slice_upto {o : Expr} {kd : Nat} {cp p sp : Pos} {k : Nat} {Q : Value → Shared → Prop}
    (h : wpAny (model prog w) A (eval o env) (fun ov s1 => ∃ a vs, ov = .ref a ∧ s1.heap.IsList a (List.toArray vs) ∧ vs.length ≤ 1000 ∧ ∀ h' r tk, Upto [] s1.heap h' → s1.heap.get? r = none → PL h' r (vs.take k) → Q (.ref r) { s1 with heap := h', toks := tk }) E s)
    (ht : ∀ x r, letTemporaryGo o x r = pure () := by intro _ _; rfl) :
    wpAny (model prog w) A (eval (.Subscript o (.Slice none (some (.Constant (.int (k : Nat)) kd cp)) none p) sp) env) Q E s := by
  refine wpAny_Subscript_list_slice (wpAny_mono h (fun ov s1 h1 => ?_) fun _ _ e => e) ht
  obtain ⟨a, vs, rfl, hl, hsz, hQ⟩ := h1
  refine wpAny_pure ?_
  show wpAny _ _ (eval _ env) _ _ _
  refine wpAny_Constant_int ?_
  refine ⟨a, vs.toArray, none, some (k : Int), rfl, hl, by rw [List.size_toArray, sizeLine_eq]; omega, .none, .int _ _, ?_⟩
  rw [slicePick_upto']
  have hsz1 : ∀ ob : Obj, (s1.heap.push ob).objs.size = s1.heap.objs.size + 1 := fun ob => Heap.size_push ..
  refine hQ _ _ _ ((Upto.push _).trans (Upto.push _)) ?_ ⟨0, ?_⟩
  · cases e : s1.heap.get? (s1.heap.objs.size + 1) with
    | none => rfl
    | some ob => exact absurd (Heap.lt_size e) (Nat.not_lt.mpr (Nat.le_succ _))
  · dsimp only
    rw [← hsz1]; exact Heap.get?_push_size _ rfl
end

def flip (b : Bool) (p : Int × Int) : Int × Int := if b then (p.2, p.1) else p
theorem flip_flip (b : Bool) (p : Int × Int) : flip b (flip b p) = p := by cases b <;> rfl
theorem flip_inj {b : Bool} {p q : Int × Int} (h : flip b p = flip b q) : p = q := by rw [← flip_flip b p, h, flip_flip]
theorem flip_small {b : Bool} {p : Int × Int} (h : Small p) : Small (flip b p) := by
  cases b
  · exact h
  · exact ⟨h.2, h.1⟩
theorem nodup_map {α β : Type} {f : α → β} (hf : ∀ x y, f x = f y → x = y) : ∀ {l : List α}, l.Nodup → (l.map f).Nodup
  | [], _ => .nil
  | x :: l, h => by
    rw [List.nodup_cons] at h
    rw [List.map_cons, List.nodup_cons]
    refine ⟨fun q => ?_, nodup_map hf h.2⟩
    obtain ⟨y, hy, e⟩ := List.mem_map.mp q
    exact h.1 (hf _ _ e ▸ hy)
section
variable {w : World} {h : Heap} {d : Addr} {m : List (Int × Addr)} {f : Int → List Int} {ps : List (Int × Int)} {b : Bool}
theorem table_mem (hf : ∀ k x, x ∈ f k ↔ ∃ p, p ∈ ps ∧ kvOf b p = (k, x)) {k x : Int} : x ∈ f k ↔ flip b (x, k) ∈ ps := by
  rw [hf]
  constructor
  · rintro ⟨p, hp, e⟩
    cases b
    · have e' : (p.2, p.1) = (k, x) := e
      injection e' with e1 e2
      show (x, k) ∈ ps
      rw [← e1, ← e2]; exact hp
    · have e' : p = (k, x) := e
      show (k, x) ∈ ps
      rw [← e']; exact hp
  · intro hp
    exact ⟨_, hp, by cases b <;> rfl⟩
theorem table_key (hs : ∀ p, p ∈ ps → Small p) (hf : ∀ k x, x ∈ f k ↔ ∃ p, p ∈ ps ∧ kvOf b p = (k, x)) : ∀ p, p ∈ m → f p.1 ≠ [] → p.1 ∈ six := by
  intro p _ hne
  cases e : f p.1 with
  | nil => exact absurd e hne
  | cons x r =>
    have hx : x ∈ f p.1 := by rw [e]; exact .head _
    have := flip_small (b := b) (hs _ ((table_mem hf).mp hx))
    rw [flip_flip] at this
    exact this.2
theorem table_edge {c : String} {sl : Array (Option Value)} (T : Tb w h d c sl m f) (hf : ∀ k x, x ∈ f k ↔ ∃ p, p ∈ ps ∧ kvOf b p = (k, x)) {p : Int × Int} : (∃ q, q ∈ m ∧ p.2 = q.1 ∧ p.1 ∈ f q.1) ↔ flip b p ∈ ps := by
  constructor
  · rintro ⟨q, _, e1, e2⟩
    have := (table_mem hf).mp e2
    rw [← e1] at this; exact this
  · intro hp
    have hx : p.1 ∈ f p.2 := (table_mem hf).mpr hp
    have hk : p.2 ∈ m.map (·.1) := Classical.byContradiction fun q => by rw [T.out _ q] at hx; cases hx
    obtain ⟨q, hq, e⟩ := List.mem_map.mp hk
    exact ⟨q, hq, e.symm, by rw [e]; exact hx⟩
theorem table_len {c : String} {sl : Array (Option Value)} (T : Tb w h d c sl m f) (h12 : ps.length ≤ 12) (hf : ∀ k x, x ∈ f k ↔ ∃ p, p ∈ ps ∧ kvOf b p = (k, x)) :
    ∀ l : List (Int × Int), l.Nodup → (∀ p, p ∈ l → ∃ q, q ∈ m ∧ p.2 = q.1 ∧ p.1 ∈ f q.1) → l.length ≤ 12 := by
  intro l hn hm
  have := nodup_sub_len (b := ps) (nodup_map (f := flip b) (fun _ _ => flip_inj) hn) fun p hp => by
    obtain ⟨q, hq, rfl⟩ := List.mem_map.mp hp
    exact (table_edge T hf).mp (hm q hq)
  rw [List.length_map] at this
  omega
end
/-- what the law's frame carries: its rows and its things -/
structure Law (h1 h : Heap) (L ax az : Addr) (rs : List Addr) (ps : List (Int × Int)) (T0 : List Int) : Prop where
  u : Upto [L, L + 1] h1 h
  pl : PL h ax (List.map Value.ref rs)
  tups : Tups h rs ps
  il : IL h az T0
  nx : ax ≠ L
  nz : az ≠ L
  nr : ∀ r, r ∈ rs → r ≠ L
theorem Law.at {h1 h h' : Heap} {L ax az : Addr} {rs : List Addr} {ps : List (Int × Int)} {T0 : List Int} (x : Law h1 h L ax az rs ps T0) (u : Upto [L] h h') : Law h1 h' L ax az rs ps T0 :=
  ⟨x.u.trans (u.mono (by simp)), x.pl.at u (by simpa using x.nx), x.tups.at u (fun r hr => by simpa using x.nr r hr), x.il.at u (by simpa using x.nz), x.nx, x.nz, x.nr⟩
theorem Law.keep {h1 h h' : Heap} {L ax az : Addr} {rs : List Addr} {ps : List (Int × Int)} {T0 : List Int} (x : Law h1 h L ax az rs ps T0) (u : Upto [] h h') : Law h1 h' L ax az rs ps T0 := x.at (u.mono (by simp))
/-- a set of pairs whose tuples lie elsewhere than at L -/
abbrev PW (w : World) (L : Addr) (h : Heap) (a : Addr) (l : List (Int × Int)) : Prop := PSet w (fun b => b ≠ L) h a l
theorem PW.step {w : World} {L a : Addr} {h h' : Heap} {l : List (Int × Int)} {bs : List (Str × Value)} (x : PW w L h a l) (lo : Loc h L bs) (u : Upto [L] h h') : PW w L h' a l :=
  PSet.at x u (by
    obtain ⟨o, es, ep, ho, hd⟩ := lo.get
    obtain ⟨es', ep', t, ho', _⟩ := x
    have := data_ne ho' ho (by rw [hd]; exact fun q => nomatch q)
    simpa using this) fun b hb g => g (List.mem_singleton.mp hb)
theorem PW.keep {w : World} {L a : Addr} {h h' : Heap} {l : List (Int × Int)} (x : PW w L h a l) (u : Upto [] h h') : PW w L h' a l := PSet.at x u (by simp) fun b hb => absurd hb List.not_mem_nil
theorem PW.of {w : World} {L a : Addr} {h0 h : Heap} {l : List (Int × Int)} {bs : List (Str × Value)} (x : PSet w (fun b => h0.get? b = none) h a l) (lo : Loc h0 L bs) : PW w L h a l := x.weak fun r p _ g => by
  obtain ⟨o, _, _, ho, _⟩ := lo.get
  exact (ne_of_none ho g).symm
theorem PW.src {w : World} {L a : Addr} {h : Heap} {l : List (Int × Int)} (x : PW w L h a l) : Src w h a l := .inr (PSet.weak x fun _ _ _ _ => trivial)
theorem Walked.at {h h' : Heap} {r L : Addr} {ps : List (Int × Int)} {T0 : List Int} {bs : List (Str × Value)} (W : Walked h r ps T0) (lo : Loc h L bs) (u : Upto [L] h h') : Walked h' r ps T0 := by
  obtain ⟨t, as, k, v1, v2, ⟨o, ho, hc, n, hd⟩, pt, la, lk, hcs⟩ := W
  obtain ⟨oL, es, ep, hoL, hdL⟩ := lo.get
  refine ⟨t, as, k, v1, v2, ⟨o, u.at ho ?_, hc, n, hd⟩, pt.at u (by simpa using lo.ne_pl pt), la.at u (fun a ha => ?_), lk, ?_⟩
  · have := data_ne ho hoL (by rw [hd, hdL]; exact fun q => nomatch q)
    simpa using this
  · obtain ⟨l, _, il⟩ := la.mem ha
    simpa using lo.ne_il il
  · rcases hcs with q | ⟨e1, rc, rd, vs, ns, rs, ps', e2, e3, Lc, Ic, pc, mc, Ld, Td, pd, md⟩
    · exact .inl q
    · refine .inr ⟨e1, rc, rd, vs, ns, rs, ps', e2, e3, IsList.at Lc u (by simpa using lo.ne_list Lc), Ic, pc, mc, IsList.at Ld u (by simpa using lo.ne_list Ld), Td.at u (fun r hr => ?_), pd, md⟩
      obtain ⟨p, tp⟩ := Td.mem hr
      simpa using lo.ne_tup tp
theorem Walked.keep {h h' : Heap} {r : Addr} {ps : List (Int × Int)} {T0 : List Int} (W : Walked h r ps T0) (u : Upto [] h h') : Walked h' r ps T0 := by
  obtain ⟨t, as, k, v1, v2, ⟨o, ho, hc, n, hd⟩, pt, la, lk, hcs⟩ := W
  refine ⟨t, as, k, v1, v2, ⟨o, u.at ho (by simp), hc, n, hd⟩, pt.at u (by simp), la.at u (by simp), lk, ?_⟩
  rcases hcs with q | ⟨e1, rc, rd, vs, ns, rs, ps', e2, e3, Lc, Ic, pc, mc, Ld, Td, pd, md⟩
  · exact .inl q
  · exact .inr ⟨e1, rc, rd, vs, ns, rs, ps', e2, e3, IsList.at Lc u (by simp), Ic, pc, mc, IsList.at Ld u (by simp), Td.at u (by simp), pd, md⟩
/-- a sorted list of pairs -/
def SP (h : Heap) (a : Addr) (qs : List (Int × Int)) : Prop := ∃ rs, h.IsList a (List.map Value.ref rs).toArray ∧ Tups h rs qs ∧ (qs.map code).Pairwise (· < ·)
theorem SP.at {h h' : Heap} {a L : Addr} {qs : List (Int × Int)} {bs : List (Str × Value)} (x : SP h a qs) (lo : Loc h L bs) (u : Upto [L] h h') : SP h' a qs := by
  obtain ⟨rs, l, t, p⟩ := x
  refine ⟨rs, IsList.at l u (by simpa using lo.ne_list l), t.at u (fun r hr => ?_), p⟩
  obtain ⟨q, tp⟩ := t.mem hr
  simpa using lo.ne_tup tp
theorem SP.keep {h h' : Heap} {a : Addr} {qs : List (Int × Int)} (x : SP h a qs) (u : Upto [] h h') : SP h' a qs :=
  let ⟨rs, l, t, p⟩ := x; ⟨rs, IsList.at l u (by simp), t.at u (by simp), p⟩
theorem SP.reads {h : Heap} {a : Addr} {qs : List (Int × Int)} (x : SP h a qs) : ∃ as, Reads h (.ref a) (pairsD qs) as := let ⟨_, l, t, _⟩ := x; reads_pairs l t
theorem SP.same {h h' : Heap} {a b : Addr} {qs qs' : List (Int × Int)} (x : SP h a qs) (y : SP h' b qs') (e : ∀ p, p ∈ qs ↔ p ∈ qs') : qs = qs' := let ⟨_, _, _, p⟩ := x; let ⟨_, _, _, q⟩ := y; sorted_unique p q e
section
variable {prog : Program} {w : World} {A : Around} {E : Value → Shared → Prop} {s : Shared}
/-- list(x), x a list -/
theorem call_list_pl {a : Addr} {vs : List Value} {Q : Value → Shared → Prop} (hT : PL s.heap a vs) (hlen : vs.length ≤ 1000)
    (h : ∀ h' tk r, Upto [] s.heap h' → s.heap.get? r = none → PL h' r vs → Q (.ref r) { s with heap := h', toks := tk }) : wpAny (model prog w) A (call (.type "list") [.ref a]) Q E s := by
  obtain ⟨n, p⟩ := hT
  refine call_list_seq a (.inl rfl) p rfl rfl (fun h' c' hk hD => h h' _ _ (fun b o _ e => hk b o e) get_none_size ⟨c', hD⟩) ?_
  rw [List.size_toArray, sizeLine_eq]; omega
end
theorem frames1 {h : Heap} {L : Addr} {bs : List (Str × Value)} (l : Loc h L bs) : ∀ env : Env, env.scope.kind ≠ .module → env.frame = some L → Frames h [env] := fun env q1 q2 => by
  obtain ⟨o, es, ep, ho, hd⟩ := l.get
  exact ⟨q1, ⟨L, o, q2, noHeap_get _, ho, fun vs q => by rw [hd] at q; cases q⟩, trivial⟩
section
variable {prog : Program} {w : World} {A : Around} {E : Value → Shared → Prop} {s : Shared} {env : Env} {bs : List (Str × Value)}
/-- x, y = .., .. : the stores are swapped -/
theorem assign_swapped {targets : List Expr} {value : Expr} {pos : Pos} {x y : Str} {Q : Flow → Shared → Prop} (hh : A.handled = none)
    (h : wpAny (model prog w) A (eval value env) (fun v s1 => ∃ r v1 v2 bs, v = .ref r ∧ s1.heap.IsTuple r #[v1, v2] ∧ Loc s1.heap env.locals bs ∧
      ∀ h' tk, Loc h' env.locals ((x, v1) :: (y, v2) :: bs) → Upto [env.locals] s1.heap h' → Q .next { s1 with heap := h', toks := tk }) E s)
    (hs : swapsWithSole targets value pos.line env = pure false) (hw : swappedStores targets value env = pure (some [x, y]))
    (hx : env.kindOf x = some .local := by rfl) (hy : env.kindOf y = some .local := by rfl) (hp : (env.scope.kind == .class || (env.scope.kind == .module && env.locals != env.globals)) = false := by rfl) :
    wpAny (model prog w) A (exec (.Assign targets value pos) env) Q E s := by
  rw [exec_Assign_arm]
  refine wpAny_bind (wpAny_standAt ?_)
  rw [hs]
  refine wpAny_bind (wpAny_pure ?_)
  rw [if_neg (by decide)]
  refine wpAny_bind (wpAny_mono h (fun v s₁ h₁ => ?_) fun _ _ x => x)
  obtain ⟨r, v1, v2, bs, rfl, ht, l, hQ⟩ := h₁
  rw [hw]
  refine wpAny_bind (wpAny_pure ?_)
  unfold assignStores
  refine wpAny_bind (wpAny_rule (wpAny_bind ?_))
  refine wpAny_unpackItems_tuple (items := #[v1, v2]) hh ht fun h1 e1 => ?_
  have u1 : Upto [] s₁.heap h1 := fun b o _ e => e1 b o (ne_size e) e
  refine wpAny_bind ?_
  show wpAny _ _ (assignInOrder [bindName env y, bindName env x] [v2, v1]) _ _ _
  unfold assignInOrder
  refine wpAny_bind (wpAny_holding (wpAny_bindName (stL (l.at u1 (by simp)) (fun h2 l2 sb2 => ?_) hy hp)))
  unfold assignInOrder
  refine wpAny_bind (wpAny_holding (wpAny_bindName (stL l2 (fun h3 l3 sb3 => ?_) hx hp)))
  unfold assignInOrder
  refine wpAny_pure (wpAny_pure (hQ h3 _ l3 ?_))
  exact (u1.mono (by simp)).trans ((Upto.same sb2 (.head _)).trans (Upto.same sb3 (.head _)))
end
theorem filter_both {α : Type} (p q : α → Bool) : ∀ {l : List α}, (∀ x, x ∈ l → q x = !p x) → (l.filter p).length + (l.filter q).length = l.length
  | [], _ => rfl
  | x :: l, h => by
    have ih := filter_both p q (l := l) fun y hy => h y (.tail _ hy)
    rw [List.filter_cons, List.filter_cons, h x (.head _)]
    cases p x <;> simp <;> omega
theorem ready_rest (ps : List (Int × Int)) (T : List Int) : (ready ps T).length + (rest ps T).length = T.length := by
  have h : ∀ x, x ∈ T → decide (x ∉ ready ps T) = !decide (∀ t, t ∈ T → (t, x) ∉ ps) := fun x hx => by
    have : (x ∉ ready ps T) ↔ ¬ (∀ t, t ∈ T → (t, x) ∉ ps) := by
      unfold ready
      rw [List.mem_filter, decide_eq_true_eq]
      exact ⟨fun q z => q ⟨hx, z⟩, fun q z => q z.2⟩
    rw [decide_eq_decide.mpr this, decide_not]
  exact filter_both _ _ h
theorem flat_len (ps : List (Int × Int)) (T0 : List Int) : ∀ k, (flatK ps T0 k).length + (todoAt ps T0 k).length = T0.length
  | 0 => by simp [flatK, layersTo, todoAt]
  | k + 1 => by
    have ih := flat_len ps T0 k
    have h := ready_rest ps (todoAt ps T0 k)
    have e : flatK ps T0 (k + 1) = flatK ps T0 k ++ ready ps (todoAt ps T0 k) := by
      unfold flatK
      rw [layersTo_succ, List.flatten_append, List.flatten_cons, List.flatten_nil, List.append_nil]
    rw [e, List.length_append]
    show _ + (rest ps (todoAt ps T0 k)).length = _
    omega
section
variable {M : Model} {A : Around} {E : Value → Shared → Prop} {s : Shared} {env : Env}
theorem boolOr2 {e1 e2 : Expr} {pos : Pos} {Q : Value → Shared → Prop} (h : wpAny M A (eval e1 env) (fun v s1 => wpAny M A (truthy v) (fun b s2 => if b then Q v s2 else wpAny M A (eval e2 env) Q E s2) E s1) E s) :
    wpAny M A (eval (.BoolOp .Or [e1, e2] pos) env) Q E s := by
  rw [arm_eval_BoolOp]
  show wpAny M A (boolOp pos .Or [eval e1 env, eval e2 env]) Q E s
  unfold boolOp
  refine wpAny_bind (wpAny_mono h (fun v s1 h1 => wpAny_bind (wpAny_standAt (wpAny_bind (wpAny_holding (wpAny_mono h1 (fun b s2 h2 => ?_) fun _ _ e => e))))) fun _ _ e => e)
  cases b
  · exact h2
  · exact wpAny_pure h2
end
theorem Lays.get {h : Heap} : ∀ {as : List Addr} {ls : List (List Int)}, Lays h as ls → ∀ {i : Nat} {a : Addr}, as[i]? = some a → ∃ l, ls[i]? = some l ∧ IL h a l
  | [], [], _, i, e, he => by simp at he
  | [], _ :: _, h, _, _, _ => h.elim
  | _ :: _, [], h, _, _, _ => h.elim
  | _ :: _, l :: _, h, 0, a, he => by simp at he; exact ⟨l, rfl, he ▸ h.1⟩
  | _ :: _, _ :: _, h, i + 1, a, he => by simp only [List.getElem?_cons_succ] at he ⊢; exact Lays.get h.2 he
theorem take_flat {LL : List (List Int)} {i : Nat} {l : List Int} (h : LL[i]? = some l) : (LL.take (i + 1)).flatten = (LL.take i).flatten ++ l := by
  rw [List.take_add_one, h, List.flatten_append]
  simp
theorem take_flat_le (LL : List (List Int)) (i : Nat) : (LL.take i).flatten.length ≤ LL.flatten.length := by
  have e : LL.flatten = (LL.take i).flatten ++ (LL.drop i).flatten := by rw [← List.flatten_append, List.take_append_drop]
  rw [e, List.length_append]
  omega
end Mine
end

section
open PySem PySem.W PySem.Calls PyProof.Rows
set_option Elab.async false
set_option maxRecDepth 100000
namespace Mine

section
variable {prog : Program} {w : World} {A : Around} {E : Value → Shared → Prop} {R : Result → Shared → Prop} {s : Shared} {env : Env}

set_option maxHeartbeats 8000000 in
theorem law_call {a : Addr} {vs : List Value} {ns : List Int} (B : Base (KK w) s.heap) (hh : A.handled = none) (hroom : A.depth + 100 < recursionLimit) (hu : A.units + 200 < cLine) (hfr : A.frames = some []) (hg : s.gens = #[])
    (hl : s.heap.IsList a vs.toArray) (hi : IntsAre vs ns) (hn : ns.length ≤ 63)
    (h : ∀ h' tk gens, Upto [] s.heap h' → AllBare gens → R (.ok (.ret (.bool true))) { s with heap := h', toks := tk, gens := gens }) :
    codeAny (model prog w) A (.call (.ref 103) ⟨[.ref a], []⟩) R s := by
  refine call_fn B (a := 103) (o := _) rfl rfl (by kernel_rfl) (by omega) rfl (binds := [(Str.ofString "script", .ref a)]) (by rfl) rfl (fun n => by rfl) ?_
  intro h1 tk U1 hns hcell habove
  have c1 : h1.IsCell (s.heap.objs.size + 1) none := hcell (Str.ofString "turn") (s.heap.objs.size + 1) rfl
  have l1 : Loc h1 s.heap.objs.size [(Str.ofString "script", .ref a)] := Loc.of hns (List.forall_mem_cons.mpr ⟨rfl, fun _ h => nomatch h⟩)
  clear hns hcell habove
  generalize hA : A.deeper _ = A'
  have hh' : A'.handled = none := by rw [← hA]; exact hh
  have hu' : A'.units + 190 < cLine := by rw [← hA]; show A.units + 3 + 190 < cLine; omega
  have hr' : A'.depth + 90 < recursionLimit := by rw [← hA]; show A.depth + 1 + 90 < recursionLimit; omega
  have hfr' : ∀ env, A.deeper env = A' → A'.frames = some [env] := fun env q => by rw [← q]; show A.frames.map _ = _; rw [hfr]; rfl
  have fL : s.heap.get? s.heap.objs.size = none := get_none_size
  have fc : s.heap.get? (s.heap.objs.size + 1) = none := Heap.get?_none_of_le (Nat.le_succ _)
  generalize hL : s.heap.objs.size = L at l1 c1 fL fc ⊢ hA
  have hcL : L + 1 ≠ L := Nat.succ_ne_self L
  have hLc : ∀ b, b ∈ [L, L + 1] → s.heap.get? b = none := fun b hb => by
    rcases List.mem_cons.mp hb with rfl | hb
    · exact fL
    · rw [List.mem_singleton.mp hb]; exact fc
  have old : ∀ h, Upto [L, L + 1] h1 h → Upto [] s.heap h := fun h u b o _ e => u b o (fun q => by rw [hLc b q] at e; cases e) (U1.at e (by simp))
  have base : ∀ h, Upto [L, L + 1] h1 h → Base (KK w) h := fun h u => B.keeps fun b o e => old h u b o (by simp) e
  have haL : a ∉ [L, L + 1] := fun q => by
    obtain ⟨o, ho, _⟩ := hl
    rw [hLc a q] at ho; cases ho
  have hl1 := IsList.at hl U1 (by simp)
  have hvn : vs.length = ns.length := hi.length
  -- rows
  refine wpAny_execs_cons (listComp_assign (by rfl) (listComp_gen (cl := []) (by rfl) (by decide) rfl (by decide) (slice_upto (k := 12) (ldL l1 rfl ⟨a, vs, rfl, hl1, by omega, fun h2 l' tk2 u12 fl' pl' => ?_⟩))))
  dsimp only
  refine wpAny_pyIter_list pl'.list fun h3 tk3 acc C U3 fa fC ne pa lc => ?_
  have hI2 : (h2.push { cls := .type "list_iterator", data := .fields #[.ref l', .int 0 0] }).IsListIter h2.objs.size l' 0 := ⟨_, Heap.get?_push_size _ rfl, rfl, rfl⟩
  have uI := Upto.push (xs := []) (h := h2) { cls := .type "list_iterator", data := .fields #[.ref l', .int 0 0] }
  have neI : l' ≠ h2.objs.size := by obtain ⟨o, ho, _⟩ := pl'.get; exact ne_size ho
  have fI : h2.get? h2.objs.size = none := get_none_size
  dsimp only at U3 fa fC
  generalize h2.push { cls := .type "list_iterator", data := .fields #[.ref l', .int 0 0] } = h2i at hI2 uI U3 fa fC ⊢
  generalize h2.objs.size = I at hI2 neI fI ⊢
  have W := Walks.list (prog := prog) (w := w) hh' I l' neI (vs.take 12).toArray
  have hI3 : h3.IsListIter I l' 0 := by obtain ⟨o, ho, r⟩ := hI2; exact ⟨o, U3.at ho (by simp), r⟩
  have pl3 := (pl'.at uI (by simp)).at U3 (by simp)
  have haf : acc ∉ [I, l'] := by
    obtain ⟨o, ho, _⟩ := hI2
    obtain ⟨o', ho', _⟩ := (pl'.at uI (by simp)).get
    simp only [List.mem_cons, List.not_mem_nil, or_false, not_or]
    exact ⟨(ne_of_none ho fa).symm, (ne_of_none ho' fa).symm⟩
  have hCf : C ∉ [I, l'] := by
    obtain ⟨o, ho, _⟩ := hI2
    obtain ⟨o', ho', _⟩ := (pl'.at uI (by simp)).get
    simp only [List.mem_cons, List.not_mem_nil, or_false, not_or]
    exact ⟨(ne_of_none ho fC).symm, (ne_of_none ho' fC).symm⟩
  have u13 : Upto [] h1 h3 := (u12.trans uI).trans U3
  have ex3 : ∀ b, b ∈ acc :: C :: [I] → ∃ o, h3.get? b = some o := fun b hb => by
    simp only [List.mem_cons, List.not_mem_nil, or_false] at hb
    rcases hb with rfl | rfl | rfl
    · obtain ⟨o, ho, _⟩ := pa.get; exact ⟨o, ho⟩
    · obtain ⟨o, _, _, ho, _⟩ := lc.get; exact ⟨o, ho⟩
    · obtain ⟨o, ho, _⟩ := hI3; exact ⟨o, ho⟩
  have i12 : IntsAre (vs.take 12) (ns.take 12) := ints_take hi 12
  have hrl : (rowsOf ns).length = (vs.take 12).toArray.size := by unfold rowsOf; rw [List.length_map, List.size_toArray, i12.length]
  refine listComp_loop (fun i ws h => ∃ rs, ws = List.map Value.ref rs ∧ Tups h rs ((rowsOf ns).take i) ∧ ∀ r, r ∈ rs → h3.get? r = none) W ⟨hI3, pl3.list⟩ (by rw [← hrl]; have := rows_len ns; omega) pa lc haf hCf ne
    ⟨[], rfl, trivial, fun _ h => absurd h List.not_mem_nil⟩ ?_ ?_ ?_ ?_
  · rintro i ws h h' ⟨rs, rfl, T, hr⟩ u
    exact ⟨rs, rfl, T.at u (fun r hr' q => by obtain ⟨o, ho⟩ := ex3 r q; rw [hr r hr'] at ho; cases ho), hr⟩
  · rintro i ws h ⟨rs, rfl, T, hr⟩
    rw [List.length_map, T.length]
    exact List.length_take_le ..
  · rintro i v h4 tk4 ws Q' E' hi4 hv hst u4 l4 p4 ⟨rs, rfl, T, hr⟩ hQ
    obtain ⟨x, t, rfl⟩ := ints_get' i12 (i := i) (v := v) (by rw [← List.getElem?_toArray]; exact hv)
    have hx : (ns.take 12)[i]? = some x := by
      have hi5 : i < (ns.take 12).length := by rw [List.size_toArray, i12.length] at hi4; exact hi4
      obtain ⟨t', ht'⟩ := ints_get i12 (List.getElem?_eq_getElem hi5)
      have : (vs.take 12).toArray[i]? = some (.int x t) := hv
      rw [List.getElem?_toArray, ht'] at this
      injection this with this
      injection this with e1 _
      rw [List.getElem?_eq_getElem hi5, e1]
    refine letOwn_name (wpAny_assign_Name (stL l4 fun h5 l5 sb5 => ?_))
    have u45 : Upto [C] h4 h5 := Upto.same sb5 (.head _)
    replace l5 : Loc h5 C _ := l5
    refine tuple2 (wpAny_BinOp (ldL l5 rfl (wpAny_Constant_int (PyProof.Rows.mod_int (by decide) ?_))))
    refine wpAny_BinOp (wpAny_BinOp (ldL l5 rfl (wpAny_Constant_int (PyProof.Rows.floordiv_int (by decide) (wpAny_Constant_int (PyProof.Rows.mod_int (by decide) ?_))))))
    dsimp only
    generalize hob : ({ cls := Value.type "tuple", data := Data.seq #[.int (x.fmod 6) _, .int ((x.fdiv 6).fmod 6) _] } : Obj) = ob
    have uP := Upto.push (xs := []) (h := h5) ob
    have ht : TupAt (h5.push ob) h5.objs.size (rowOf x) := by subst hob; exact ⟨_, _, _, _, Heap.get?_push_size _ rfl, rfl, rfl⟩
    have fr3 : h3.get? h5.objs.size = none := (u4.trans (u45.mono (by simp))).none_size fun b hb => by
      simp only [List.mem_cons, List.not_mem_nil, or_false] at hb
      rcases hb with rfl | rfl | rfl
      · obtain ⟨o, ho, _⟩ := p4.get; exact ⟨o, u45.at ho (by simpa using ne)⟩
      · obtain ⟨o, _, _, ho, _⟩ := l5.get; exact ⟨o, ho⟩
      · obtain ⟨⟨o, ho, _⟩, _⟩ := hst; exact ⟨o, u45.at ho (by simp at hCf; simpa using fun q : b = C => hCf.1 q.symm)⟩
    refine hQ _ _ _ _ (u45.trans (uP.mono (by simp))) (l5.at uP (by simp)) ⟨rs ++ [h5.objs.size], by rw [List.map_append]; rfl, ?_, fun r hr' => ?_⟩
    · rw [List.take_add_one, show (rowsOf ns)[i]? = some (rowOf x) by unfold rowsOf; rw [List.getElem?_map, hx]; rfl]
      refine ((T.at u45 (fun r hr' q => ?_)).at uP (by simp)).snoc ht
      obtain ⟨o, ho⟩ := ex3 r (by rw [List.mem_singleton.mp q]; simp)
      rw [hr r hr'] at ho; cases ho
    · rcases List.mem_append.mp hr' with z | z
      · exact hr r z
      · rw [List.mem_singleton.mp z]; exact fr3
  · intro h4 tk4 ws u4 l4 p4 ac4
    obtain ⟨rs, rfl, T, hr⟩ := ac4
    rw [List.take_of_length_le (by omega)] at T
    have f1 : ∀ b, b ∈ acc :: C :: [I] → h1.get? b = none := fun b hb => by
      simp only [List.mem_cons, List.not_mem_nil, or_false] at hb
      rcases hb with rfl | rfl | rfl
      · exact none_of (u12.trans uI) fa
      · exact none_of (u12.trans uI) fC
      · exact none_of u12 fI
    have u14 : Upto [] h1 h4 := fun b o hb e => u4.at (u13.at e hb) (fun q => by rw [f1 b q] at e; cases e)
    obtain ⟨oL1, esL1, epL1, hoL1, hdL1⟩ := l1.get
    refine compPost_assign (l1.at u14 (by simp)) l4 (ne_of_none hoL1 (f1 C (by simp))).symm fun h5 tk5 l5 u45 => ?_
    replace l5 : Loc h5 L _ := l5
    replace u45 : Upto [L, C] h4 h5 := u45
    have u15 : Upto [L, L + 1] h1 h5 := fun b o hb e => u45.at (u14.at e (by simp)) (by
      simp only [List.mem_cons, List.not_mem_nil, or_false, not_or] at hb ⊢
      exact ⟨hb.1, ne_of_none e (f1 C (by simp))⟩)
    have c5 : h5.IsCell (L + 1) none := IsCell.at (IsCell.at c1 u14 (by simp)) u45 (by
      obtain ⟨oc, hoc, _⟩ := c1
      simp only [List.mem_cons, List.not_mem_nil, or_false, not_or]
      exact ⟨hcL, ne_of_none hoc (f1 C (by simp))⟩)
    have p5 := p4.at u45 (by
      obtain ⟨o, ho, _⟩ := p4.get
      simp only [List.mem_cons, List.not_mem_nil, or_false, not_or]
      exact ⟨(ne_of_none hoL1 (f1 acc (by simp))).symm, ne⟩)
    have T5 := T.at u45 (fun r hr' q => by
      rcases List.mem_cons.mp q with rfl | q
      · have := u13.at hoL1 (by simp)
        rw [hr _ hr'] at this; cases this
      · obtain ⟨o, ho⟩ := ex3 r (by rw [List.mem_singleton.mp q]; simp)
        rw [hr r hr'] at ho; cases ho)
    clear ex3 f1 u14 u45 u4 l4 p4 T hr u13 i12 hrl haf hCf pl3 hI3 W neI fI hI2 uI U3 fa fC ne pa lc u12 fl' pl' l1 c1 hoL1 hdL1
    have hl5 := IsList.at hl1 u15 haL
    -- turn
    refine wpAny_execs_cons (wpAny_Assign_Name (wpAny_mono (Q := fun v s' => ∃ t tk, v = .int (turnOf ns) t ∧ s' = { s with heap := h5, toks := tk }) ?_ (fun v s' q => ?_) fun _ _ e => e))
    · refine wpAny_BinOp (wpAny_IfExp (wpAny_isTrue_value (ldL l5 rfl (wpAny_truthy_list hl5 (by rw [List.size_toArray]; omega) ?_))))
      cases hi with
      | nil =>
        simp only [List.isEmpty_toArray, List.isEmpty_nil, Bool.not_true, Bool.false_eq_true, ↓reduceIte]
        exact wpAny_Constant_int (wpAny_Constant_int (PyProof.Rows.mod_int (by decide) ⟨_, _, rfl, rfl⟩))
      | cons n t r =>
        simp only [List.isEmpty_toArray, List.isEmpty_cons, Bool.not_false, ↓reduceIte]
        exact sub_list (k := 0) (by omega) (ldL l5 rfl ⟨a, _, .int n t, rfl, hl5, rfl, fun tk => wpAny_Constant_int (PyProof.Rows.mod_int (by decide) ⟨_, _, rfl, rfl⟩)⟩)
    obtain ⟨tt, tk6, rfl, rfl⟩ := q
    refine wpAny_storeName_cell rfl rfl rfl c5 fun h6 c6 sb6 => ?_
    have u56 : Upto [L + 1] h5 h6 := Upto.same sb6 (.head _)
    have u16 : Upto [L, L + 1] h1 h6 := u15.trans (u56.mono (by simp))
    have l6 := l5.at u56 (by simpa using hcL.symm)
    have ncell : ∀ {b : Addr} {o : Obj}, h5.get? b = some o → (∀ v, o.data ≠ .cell v) → b ∉ [L + 1] := fun {b o} e hd => by
      obtain ⟨oc, hoc, hdc⟩ := c5
      rw [List.mem_singleton]
      rintro rfl
      rw [hoc] at e; cases e
      exact hd _ hdc
    have p6 := p5.at u56 (by obtain ⟨n, q⟩ := p5; exact ncell q (fun v q => nomatch q))
    have T6 : Tups h6 rs (rowsOf ns) := T5.at u56 fun r hr q => by
      obtain ⟨p, tp⟩ := T5.mem hr
      obtain ⟨o, n, _, _, ho, _, hd⟩ := tp
      exact ncell ho (by rw [hd]; exact fun v q => nomatch q) q
    clear c5 l5 p5 T5 sb6 u56 ncell hl5 u15
    -- things
    refine wpAny_execs_cons (listComp_assign (by rfl) (listComp_gen (cl := [(Str.ofString "turn", L + 1)]) (by rfl) (by decide) rfl (by decide) (callT1 (T := "range") (ldB (base _ u16) g_range b_range (by decide) ⟨rfl, wpAny_Constant_int (call_range_1 ?_)⟩))))
    refine wpAny_pyIter_range (IsRange.new ..) (small_one (by decide) (by decide) (by decide) (by decide)) fun h7 tk7 acc2 C U7 fa fC ne pa lc => ?_
    dsimp only at U7 fa fC ⊢
    generalize hR : h6.push _ = h6r at U7 fa fC ⊢
    have uR : Upto [] h6 h6r := by rw [← hR]; exact Upto.push _
    have fI : h6r.get? h6r.objs.size = none := get_none_size
    generalize hIt : h6r.push _ = h6i at U7 fa fC
    have uI : Upto [] h6r h6i := by rw [← hIt]; exact Upto.push _
    have hI6 : IsRangeIter h6i h6r.objs.size 0 6 1 := by rw [← hIt]; exact Heap.get?_push_size _ rfl
    generalize h6r.objs.size = I at fI hI6 ⊢
    have W := Walks.range (prog := prog) (w := w) hh' I 0 1 6
    have u67 : Upto [] h6 h7 := (uR.trans uI).trans U7
    have fI6 : h6.get? I = none := none_of uR fI
    have fa6 : h6.get? acc2 = none := none_of (uR.trans uI) fa
    have fC6 : h6.get? C = none := none_of (uR.trans uI) fC
    have haI : acc2 ≠ I := (ne_of_none hI6 fa).symm
    have hCI : C ≠ I := (ne_of_none hI6 fC).symm
    refine listComp_loop (fun i ws h => IntsAre ws ((thingsOf (turnOf ns)).take i)) W (U7.at hI6 (by simp)) (by decide) pa lc (by simpa using haI) (by simpa using hCI) ne .nil (fun _ _ _ _ h _ => h) ?_ ?_ ?_
    · intro i ws h hw
      rw [hw.length]
      exact List.length_take_le ..
    · rintro i v h8 tk8 ws Q' E' hi8 ⟨t, rfl⟩ hst u8 l8 p8 hw hQ
      refine letOwn_name (wpAny_assign_Name (stL l8 fun h9 l9 sb9 => ?_))
      have u89 : Upto [C] h8 h9 := Upto.same sb9 (.head _)
      replace l9 : Loc h9 C _ := l9
      have c9 : h9.IsCell (L + 1) (some (.int (turnOf ns) tt)) := by
        obtain ⟨o, ho, hd⟩ := c6
        refine ⟨o, u89.at (u8.at (u67.at ho (by simp)) ?_) (by simpa using ne_of_none ho fC6), hd⟩
        simp only [List.mem_cons, List.not_mem_nil, or_false, not_or]
        exact ⟨ne_of_none ho fa6, ne_of_none ho fC6, ne_of_none ho fI6⟩
      refine wpAny_BinOp (wpAny_BinOp (ldC c9 (ldL l9 rfl (PyProof.Rows.add_int (wpAny_Constant_int (PyProof.Rows.mod_int (by decide) ?_))))))
      refine hQ h9 _ _ _ u89 l9 ?_
      have hx : (thingsOf (turnOf ns))[i]? = some ((turnOf ns + (0 + (i : Int) * 1)).fmod 6) := by
        unfold thingsOf
        rw [List.getElem?_map, List.getElem?_range hi8]
        simp
      rw [List.take_add_one, hx]
      exact ints_snoc hw
    · intro h8 tk8 ws u8 l8 p8 hw
      rw [List.take_of_length_le (by rw [things_len]; exact Nat.le_refl _)] at hw
      have f6 : ∀ b, b ∈ acc2 :: C :: [I] → h6.get? b = none := fun b hb => by
        simp only [List.mem_cons, List.not_mem_nil, or_false] at hb
        rcases hb with rfl | rfl | rfl
        · exact fa6
        · exact fC6
        · exact fI6
      have u68 : Upto [] h6 h8 := fun b o hb e => u8.at (u67.at e hb) (fun q => by rw [f6 b q] at e; cases e)
      obtain ⟨oL6, _, _, hoL6, _⟩ := l6.get
      refine compPost_assign (l6.at u68 (by simp)) l8 (ne_of_none hoL6 fC6).symm fun h9 tk9 l9 u89 => ?_
      replace l9 : Loc h9 L _ := l9
      replace u89 : Upto [L, C] h8 h9 := u89
      have u69 : Upto [L] h6 h9 := fun b o hb e => u89.at (u68.at e (by simp)) (by
        simp only [List.mem_cons, List.not_mem_nil, or_false, not_or] at hb ⊢
        exact ⟨hb, ne_of_none e fC6⟩)
      have u19 : Upto [L, L + 1] h1 h9 := u16.trans (u69.mono (by simp))
      have I9 : IL h9 acc2 (thingsOf (turnOf ns)) := ⟨ws, p8.at u89 (by
        simp only [List.mem_cons, List.not_mem_nil, or_false, not_or]
        exact ⟨(ne_of_none hoL6 fa6).symm, ne⟩), hw⟩
      have p9 := p6.at u69 (by simpa using l6.ne_pl p6)
      have T9 := T6.at u69 fun r hr => by
        obtain ⟨p, tp⟩ := T6.mem hr
        simpa using l6.ne_tup tp
      clear f6 u68 u8 l8 p8 hw W u67 hI6 uI uR fI fI6 fa fC fa6 fC6 haI hCI U7 ne pa lc u89 u69 u16 p6 T6 l6 hoL6 c6 hIt hR
      generalize hps : rowsOf ns = ps at T9
      generalize hT0 : thingsOf (turnOf ns) = T0 at I9
      have hsm : ∀ p, p ∈ ps → Small p := hps ▸ rows_small
      have hp12 : ps.length ≤ 12 := hps ▸ rows_len ns
      have hsix : ∀ n, n ∈ T0 → n ∈ six := hT0 ▸ things_six
      have hlen : T0.length ≤ 6 := by rw [← hT0, things_len]; exact Nat.le_refl _
      have hps12 : ∀ l : List (Int × Int), l.Nodup → (∀ p, p ∈ l → p ∈ ps) → l.length ≤ 12 := fun l hn hm => by
        have := nodup_sub_len (b := ps) hn hm
        omega
      clear hps hT0
      have K9 : Law h1 h9 L acc acc2 rs ps T0 := ⟨u19, p9, T9, I9, l9.ne_pl p9, l9.ne_il I9, fun r hr => by obtain ⟨p, tp⟩ := T9.mem hr; exact l9.ne_tup tp⟩
      clear u19 p9 T9 I9
      -- waits
      have B9 := base _ K9.u
      refine wpAny_execs_cons (wpAny_Assign_Name (callV1 (ldG B9 g_gen ⟨rfl, callV2 (ldG B9 g_table ⟨rfl, ldL l9 rfl (wpAny_Constant_bool ⟨⟨_, _, B9.1 84 _ rfl, rfl⟩, wpAny_call (law_table (b := false) B9 hh' (by omega) K9.pl.list K9.tups hsm fun h10 tk10 d m f u910 fd Td hf => ?_)⟩)⟩)⟩)))
      dsimp only at u910 fd Td ⊢
      have B10 : Base (KK w) h10 := B9.keeps fun b o e => u910 b o (by simp) e
      obtain ⟨ep10, D10⟩ := Td.dt
      refine ⟨⟨_, _, B10.1 77 _ rfl, rfl⟩, wpAny_call (gen_edges B10 hh' (by omega) (by omega) D10 Td.set (table_key hsm hf) (table_len Td hp12 hf) fun h11 tk11 wt lw u1011 fwt Sw hlw => ?_)⟩
      dsimp only at u1011 fwt Sw ⊢
      have l10 := l9.at u910 (by simp)
      have S11 : PW w L h11 wt lw := PW.of Sw l10
      have hlw2 : ∀ p, p ∈ lw ↔ p ∈ ps := fun p => (hlw p).trans (table_edge Td hf)
      refine stL (l10.at u1011 (by simp)) fun h12 l12 sb12 => ?_
      have u12 : Upto [L] h11 h12 := Upto.same sb12 (.head _)
      replace l12 : Loc h12 L _ := l12
      have K12 := ((K9.keep u910).keep u1011).at u12
      have S12 := S11.step (l10.at u1011 (by simp)) u12
      clear hlw Sw fwt u12 sb12 S11 u1011 l10 hf Td D10 B10 fd u910 B9 K9 l9
      -- waited
      have B12 := base _ K12.u
      refine wpAny_execs_cons (wpAny_Assign_Name (callV1 (ldG B12 g_gen ⟨rfl, callV2 (ldG B12 g_table ⟨rfl, ldL l12 rfl (wpAny_Constant_bool ⟨⟨_, _, B12.1 84 _ rfl, rfl⟩, wpAny_call (law_table (b := true) B12 hh' (by omega) K12.pl.list K12.tups hsm fun h13 tk13 d m f u1213 fd Td hf => ?_)⟩)⟩)⟩)))
      dsimp only at u1213 fd Td ⊢
      have B13 : Base (KK w) h13 := B12.keeps fun b o e => u1213 b o (by simp) e
      obtain ⟨ep13, D13⟩ := Td.dt
      refine ⟨⟨_, _, B13.1 77 _ rfl, rfl⟩, wpAny_call (gen_edges B13 hh' (by omega) (by omega) D13 Td.set (table_key hsm hf) (table_len Td hp12 hf) fun h14 tk14 wd ld u1314 fwd Sd hld => ?_)⟩
      dsimp only at u1314 fwd Sd ⊢
      have l13 := l12.at u1213 (by simp)
      have S14 : PW w L h14 wd ld := PW.of Sd l13
      have hld2 : ∀ p, p ∈ ld ↔ flip true p ∈ ps := fun p => (hld p).trans (table_edge Td hf)
      refine stL (l13.at u1314 (by simp)) fun h15 l15 sb15 => ?_
      have u15 : Upto [L] h14 h15 := Upto.same sb15 (.head _)
      replace l15 : Loc h15 L _ := l15
      have K15 := ((K12.keep u1213).keep u1314).at u15
      have S15 := ((S12.keep u1213).keep u1314).step (l13.at u1314 (by simp)) u15
      have D15 := S14.step (l13.at u1314 (by simp)) u15
      clear hld Sd fwd u15 sb15 S14 u1314 l13 hf Td D13 B13 fd u1213 B12 K12 l12 S12
      -- plain
      have B15 := base _ K15.u
      refine wpAny_execs_cons (wpAny_Assign_Name (callV1 (ldG B15 g_plain ⟨rfl, ldL l15 rfl ⟨⟨_, _, B15.1 98 _ rfl, rfl⟩, wpAny_call (law_plain B15 hh' (by omega) (by omega) K15.pl.list K15.tups hsm hp12 fun h16 tk16 pn rsp qs u1516 fpn Lp Tp sp mp => ?_)⟩⟩)))
      dsimp only at u1516 fpn Lp Tp ⊢
      have l16 := l15.at u1516 (by simp)
      refine stL l16 fun h17 l17 sb17 => ?_
      have u17 : Upto [L] h16 h17 := Upto.same sb17 (.head _)
      replace l17 : Loc h17 L _ := l17
      have K17 := (K15.keep u1516).at u17
      have S17 := (S15.keep u1516).step l16 u17
      have D17 := (D15.keep u1516).step l16 u17
      have P17 : SP h17 pn qs := SP.at ⟨rsp, Lp, Tp, sp⟩ l16 u17
      clear u17 sb17 Lp Tp sp fpn u1516 B15 K15 S15 D15 l15 l16
      -- the first question
      have hlen0 : ∀ {l : List (Int × Int)}, l.Nodup → (∀ p, p ∈ l ↔ p ∈ ps) → l.length ≤ 12 := fun hn hm => hps12 _ hn fun p hp => (hm p).mp hp
      have B17 := base _ K17.u
      refine wpAny_execs_cons (wpAny_If (wpAny_isTrue_BoolOp (wpAny_allTrue_Or_cons (wpAny_isTrue_Not (wpAny_isTrue_value (callF2 (id := "isinstance") (ldB B17 g_isinstance b_isinstance (by decide) ⟨rfl, ldL l17 rfl (ldSet B17 ?_)⟩)))))))
      obtain ⟨oS, hoS, hcS⟩ := S17.get
      refine IsiPair.set_set hoS hcS (wpAny_truthy_bool ?_)
      simp only [Bool.not_true, Bool.false_eq_true, ↓reduceIte]
      refine wpAny_allTrue_Or_cons (wpAny_isTrue_Compare1 (callF1 (id := "sorted") (ldB B17 g_sorted b_sorted (by decide) ⟨rfl, ldL l17 rfl (sorted_pset (.inl hh') S17 (hlen0 S17.nodup hlw2) fun h18 tk18 r18 rs18 qs18 u1718 f18 L18 T18 s18 m18 => ?_)⟩)))
      dsimp only at u1718 f18 L18 T18 ⊢
      have l18 := l17.at u1718 (by simp)
      refine ldL l18 rfl ?_
      have P18 := P17.keep u1718
      have e18 : qs18 = qs := SP.same ⟨rs18, L18, T18, s18⟩ P18 fun p => ((m18 p).trans (hlw2 p)).trans (mp p).symm
      obtain ⟨_, ra⟩ := reads_pairs L18 T18
      obtain ⟨_, rb⟩ := P18.reads
      rw [e18] at ra
      refine SeqAt.compareNe_shaped ra rb ((plain_pairs (k := 0) qs).shaped (by decide)) ((plain_pairs (k := 0) qs).shaped (by decide)) (by omega) (wpAny_truthy_bool ?_)
      rw [(plain_pairs (k := 0) qs).same]
      simp only [Bool.not_true, Bool.false_eq_true, ↓reduceIte]
      refine wpAny_allTrue_Or_nil ?_
      simp only [Bool.false_eq_true, ↓reduceIte]
      refine wpAny_execs_nil ?_
      dsimp only
      have K18 := K17.keep u1718
      have S18 := S17.keep u1718
      have D18 := D17.keep u1718
      clear ra rb L18 T18 s18 m18 e18 f18 u1718 hoS hcS B17 K17 S17 D17 P17 l17
      -- the second question
      have B18 := base _ K18.u
      refine wpAny_execs_cons (wpAny_If (wpAny_isTrue_Compare1 (callF1 (id := "sorted") (ldB B18 g_sorted b_sorted (by decide) ⟨rfl, ldL l18 rfl (sorted_pset (.inl hh') D18 ?_ fun h19 tk19 r19 rs19 qs19 u1819 f19 L19 T19 s19 m19 => ?_)⟩))))
      · have := nodup_sub_len (b := ps) (nodup_map (f := flip true) (fun _ _ => flip_inj) D18.nodup) fun p hp => by
          obtain ⟨q, hq, rfl⟩ := List.mem_map.mp hp
          exact (hld2 q).mp hq
        rw [List.length_map] at this
        omega
      dsimp only at u1819 f19 L19 T19 ⊢
      have l19 := l18.at u1819 (by simp)
      have K19 := K18.keep u1819
      have B19 := base _ K19.u
      refine callV1 (ldG B19 g_plain ⟨rfl, listComp_eval (listComp_gen (cl := []) (by rfl) (by decide) rfl (by decide) (ldL l19 rfl (wpAny_pyIter_list K19.pl.list fun h20 tk20 acc3 C3 U20 fa fC ne pa lc => ?_)))⟩)
      dsimp only at U20 fa fC ⊢
      have fI : h19.get? h19.objs.size = none := get_none_size
      have neI : acc ≠ h19.objs.size := by obtain ⟨o, ho, _⟩ := K19.pl.get; exact ne_size ho
      generalize hIt : h19.push _ = h19i at U20 fa fC
      have uI : Upto [] h19 h19i := by rw [← hIt]; exact Upto.push _
      have hI6 : h19i.IsListIter h19.objs.size acc 0 := by rw [← hIt]; exact ⟨_, Heap.get?_push_size _ rfl, rfl, rfl⟩
      generalize h19.objs.size = I at fI neI hI6 ⊢
      have W := Walks.list (prog := prog) (w := w) hh' I acc neI (List.map Value.ref rs).toArray
      have u1920 : Upto [] h19 h20 := uI.trans U20
      have fa6 : h19.get? acc3 = none := none_of uI fa
      have fC6 : h19.get? C3 = none := none_of uI fC
      have hI20 : h20.IsListIter I acc 0 := by obtain ⟨o, ho, r⟩ := hI6; exact ⟨o, U20.at ho (by simp), r⟩
      have K20 := K19.keep u1920
      have haf : acc3 ∉ [I, acc] := by
        obtain ⟨o, ho, _⟩ := hI6
        obtain ⟨o', ho', _⟩ := K19.pl.get
        simp only [List.mem_cons, List.not_mem_nil, or_false, not_or]
        exact ⟨(ne_of_none ho fa).symm, (ne_of_none ho' fa6).symm⟩
      have hCf : C3 ∉ [I, acc] := by
        obtain ⟨o, ho, _⟩ := hI6
        obtain ⟨o', ho', _⟩ := K19.pl.get
        simp only [List.mem_cons, List.not_mem_nil, or_false, not_or]
        exact ⟨(ne_of_none ho fC).symm, (ne_of_none ho' fC6).symm⟩
      have ex20 : ∀ b, b ∈ acc3 :: C3 :: [I] → ∃ o, h20.get? b = some o := fun b hb => by
        simp only [List.mem_cons, List.not_mem_nil, or_false] at hb
        rcases hb with rfl | rfl | rfl
        · obtain ⟨o, ho, _⟩ := pa.get; exact ⟨o, ho⟩
        · obtain ⟨o, _, _, ho, _⟩ := lc.get; exact ⟨o, ho⟩
        · obtain ⟨o, ho, _⟩ := hI20; exact ⟨o, ho⟩
      have f19' : ∀ b, b ∈ acc3 :: C3 :: [I] → h19.get? b = none := fun b hb => by
        simp only [List.mem_cons, List.not_mem_nil, or_false] at hb
        rcases hb with rfl | rfl | rfl
        · exact fa6
        · exact fC6
        · exact fI
      have hsz : (List.map Value.ref rs).toArray.size = ps.length := by rw [List.size_toArray, List.length_map, K19.tups.length]
      refine listComp_loop (fun i ws h => ∃ rs', ws = List.map Value.ref rs' ∧ Tups h rs' ((ps.map (flip true)).take i) ∧ ∀ r, r ∈ rs' → h20.get? r = none) W ⟨hI20, K20.pl.list⟩ (by rw [hsz]; omega) pa lc haf hCf ne
        ⟨[], rfl, trivial, fun _ h => absurd h List.not_mem_nil⟩ ?_ ?_ ?_ ?_
      · rintro i ws h h' ⟨rs', rfl, T, hr⟩ u
        exact ⟨rs', rfl, T.at u (fun r hr' q => by obtain ⟨o, ho⟩ := ex20 r q; rw [hr r hr'] at ho; cases ho), hr⟩
      · rintro i ws h ⟨rs', rfl, T, hr⟩
        rw [List.length_map, T.length]
        exact List.length_take_le ..
      · rintro i v h4 tk4 ws Q' E' hi4 hv hst u4 l4 p4 ⟨rs', rfl, T, hr⟩ hQ
        obtain ⟨r, hri, rfl⟩ : ∃ r, rs[i]? = some r ∧ v = .ref r := by
          simp only [List.getElem?_toArray, List.getElem?_map, Option.map_eq_some_iff] at hv
          obtain ⟨r, h1, h2⟩ := hv
          exact ⟨r, h1, h2.symm⟩
        obtain ⟨p, hp, tp⟩ := K19.tups.get hri
        obtain ⟨oi, hoi, hci, _⟩ := hst.1
        refine letOwn_pair hoi hci (by decide) ?_
        have tp4 := (tp.at u1920 (by simp)).at u4 (fun q => by
          obtain ⟨o, ho, _⟩ := tp.get
          rw [f19' r q] at ho; cases ho)
        obtain ⟨t1, t2, htup⟩ := tp4.tuple
        refine assign2 hh' htup l4 fun h5 tk5 l5 u45 => ?_
        replace u45 : Upto [C3] h4 h5 := u45
        replace l5 : Loc h5 C3 _ := l5
        refine tuple2 (ldL l5 rfl (ldL l5 rfl ?_))
        dsimp only
        generalize hob : ({ cls := Value.type "tuple", data := Data.seq #[.int p.2 t2, .int p.1 t1] } : Obj) = ob
        have uP := Upto.push (xs := []) (h := h5) ob
        have ht : TupAt (h5.push ob) h5.objs.size (flip true p) := by subst hob; exact ⟨_, _, _, _, Heap.get?_push_size _ rfl, rfl, rfl⟩
        have fr3 : h20.get? h5.objs.size = none := (u4.trans (u45.mono (by simp))).none_size fun b hb => by
          simp only [List.mem_cons, List.not_mem_nil, or_false] at hb
          rcases hb with rfl | rfl | rfl
          · obtain ⟨o, ho, _⟩ := p4.get; exact ⟨o, u45.at ho (by simpa using ne)⟩
          · obtain ⟨o, _, _, ho, _⟩ := l5.get; exact ⟨o, ho⟩
          · exact ⟨_, u45.at hoi (by simp at hCf; simpa using fun q : b = C3 => hCf.1 q.symm)⟩
        refine hQ _ _ _ _ (u45.trans (uP.mono (by simp))) (l5.at uP (by simp)) ⟨rs' ++ [h5.objs.size], by rw [List.map_append]; rfl, ?_, fun r hr' => ?_⟩
        · rw [List.take_add_one, show (ps.map (flip true))[i]? = some (flip true p) by rw [List.getElem?_map, hp]; rfl]
          refine ((T.at u45 (fun r hr' q => ?_)).at uP (by simp)).snoc ht
          obtain ⟨o, ho⟩ := ex20 r (by rw [List.mem_singleton.mp q]; simp)
          rw [hr r hr'] at ho; cases ho
        · rcases List.mem_append.mp hr' with z | z
          · exact hr r z
          · rw [List.mem_singleton.mp z]; exact fr3
      · intro h21 tk21 ws u21 l21 p21 ac21
        obtain ⟨rs', rfl, T, hr⟩ := ac21
        rw [hsz, List.take_of_length_le (by rw [List.length_map]; exact Nat.le_refl _)] at T
        refine compPost_cell l21 fun h22 u22 => ?_
        dsimp only at u22 ⊢
        have u1922 : Upto [] h19 h22 := fun b o hb e => u22.at (u21.at (u1920.at e hb) (fun q => by rw [f19' b q] at e; cases e)) (by simpa using ne_of_none e fC6)
        have T22 := T.at u22 (fun r hr' q => by
          obtain ⟨o, ho⟩ := ex20 r (by rw [List.mem_singleton.mp q]; simp)
          rw [hr r hr'] at ho; cases ho)
        have p22 := p21.at u22 (by simpa using ne)
        have K22 := K19.keep u1922
        have B22 := base _ K22.u
        have l22 := l19.at u1922 (by simp)
        have T19' := T19.at u1922 (by simp)
        have L19' := IsList.at L19 u1922 (by simp)
        have P22 := (P18.keep u1819).keep u1922
        have S22 := (S18.keep u1819).keep u1922
        clear T p21 u21 u22 l21 ex20 f19' haf hCf hI20 hI6 W uI U20 fa fC fa6 fC6 neI fI u1920 K20 pa lc ne hIt
        refine ⟨⟨_, _, B22.1 98 _ rfl, rfl⟩, wpAny_call (law_plain B22 hh' (by omega) (by omega) p22.list T22 (fun p hp => ?_) (by rw [List.length_map]; omega) fun h23 tk23 pn2 rsp2 qs2 u2223 fpn2 Lp2 Tp2 sp2 mp2 => ?_)⟩
        · obtain ⟨q, hq, rfl⟩ := List.mem_map.mp hp
          exact flip_small (hsm q hq)
        dsimp only at u2223 fpn2 Lp2 Tp2 ⊢
        have e23 : qs19 = qs2 := sorted_unique s19 sp2 fun p => by
          rw [m19, hld2, mp2, List.mem_map]
          constructor
          · intro q
            exact ⟨_, q, flip_flip true p⟩
          · rintro ⟨q, hq, rfl⟩
            rw [flip_flip]; exact hq
        obtain ⟨_, ra⟩ := reads_pairs (IsList.at L19' u2223 (by simp)) (T19'.at u2223 (by simp))
        obtain ⟨_, rb⟩ := reads_pairs Lp2 Tp2
        rw [e23] at ra
        refine SeqAt.compareNe_shaped ra rb ((plain_pairs (k := 0) qs2).shaped (by decide)) ((plain_pairs (k := 0) qs2).shaped (by decide)) (by omega) (wpAny_truthy_bool ?_)
        rw [(plain_pairs (k := 0) qs2).same]
        simp only [Bool.not_true, Bool.false_eq_true, ↓reduceIte]
        refine wpAny_execs_nil ?_
        dsimp only
        have K23 := K22.keep u2223
        have l23 := l22.at u2223 (by simp)
        have P23 := P22.keep u2223
        have S23 := S22.keep u2223
        clear ra rb e23 Lp2 Tp2 sp2 mp2 fpn2 u2223 S22 P22 L19' T19' l22 B22 K22 p22 T22 u1922 L19 T19 s19 m19 f19 u1819 K19 K18 S18 D18 P18 B18 B19 l18 l19
        -- the walks
        have kfun : ScopeKind.function ≠ ScopeKind.module := fun q => nomatch q
        have B23 := base _ K23.u
        refine wpAny_execs_cons (assign_swapped (x := Str.ofString "first") (y := Str.ofString "again") hh' (tuple2 (callV2 (ldG B23 g_walk ⟨rfl, callT1 (T := "list") (ldB B23 g_list b_list (by decide) ⟨rfl, ldL l23 rfl (call_list_pl K23.pl (by rw [List.length_map, K23.tups.length]; omega) fun h24 tk24 X1 u2324 fX1 pX1 => ?_)⟩)⟩))) rfl rfl)
        dsimp only at u2324 fX1 pX1 ⊢
        have K24 := K23.keep u2324
        have l24 := l23.at u2324 (by simp)
        have B24 := base _ K24.u
        refine ldL l24 rfl ⟨⟨_, _, B24.1 91 _ rfl, rfl⟩, wpAny_call (law_walk B B24 hh' (by omega) (by omega) (hfr' _ hA) (frames1 l24 _ kfun rfl) (fun b hb => ?_) (.inl ⟨rs, pX1.list, K24.tups⟩) K24.il hsm hps12 hsix hlen fun h25 tk25 r1 u2425 k2425 f25 W25 => ?_)⟩
        · have hb' : b ∈ [L] := hb
          rw [List.mem_singleton.mp hb']; exact fL
        replace u2425 : Upto [L] h24 h25 := u2425
        replace k2425 : SlotsKept [L] h24 h25 := k2425
        dsimp only
        have l25 := l24.slots k2425 (.head _)
        have K25 := K24.at u2425
        have S25 := (S23.keep u2324).step l24 u2425
        have P25 := (P23.keep u2324).at l24 u2425
        have B25 := base _ K25.u
        clear u2425 k2425 f25 pX1 fX1 u2324 K23 K24 l23 l24 B23 B24 S23 P23
        refine callV2 (ldG B25 g_walk ⟨rfl, ldL l25 rfl (ldL l25 rfl ⟨⟨_, _, B25.1 91 _ rfl, rfl⟩, wpAny_call (law_walk B B25 hh' (by omega) (by omega) (hfr' _ hA) (frames1 l25 _ kfun rfl) (fun b hb => ?_) S25.src K25.il (fun p hp => hsm p ((hlw2 p).mp hp)) (fun l hn hm => hps12 l hn fun p hp => (hlw2 p).mp (hm p hp)) hsix hlen fun h26 tk26 r2 u2526 k2526 f26 W26 => ?_)⟩)⟩)
        · have hb' : b ∈ [L] := hb
          rw [List.mem_singleton.mp hb']; exact fL
        replace u2526 : Upto [L] h25 h26 := u2526
        replace k2526 : SlotsKept [L] h25 h26 := k2526
        dsimp only
        have l26 := l25.slots k2526 (.head _)
        have K26 := K25.at u2526
        have S26 := S25.step l25 u2526
        have P26 := P25.at l25 u2526
        have W26' := W25.at l25 u2526
        clear u2526 k2526 f26 K25 l25 B25 S25 P25 W25
        have uP := Upto.push (xs := []) (h := h26) { cls := .type "tuple", data := .seq #[.ref r1, .ref r2] }
        refine ⟨_, _, _, _, rfl, ⟨_, Heap.get?_push_size _ rfl, rfl, _, rfl⟩, l26.at uP (by simp), fun h27 tk27 l27 u27 => ?_⟩
        replace u27 : Upto [L] _ h27 := u27
        replace l27 : Loc h27 L _ := l27
        have lP := l26.at uP (by simp)
        have K27 := (K26.keep uP).at u27
        have S27 := (S26.keep uP).step lP u27
        have P27 := (P26.keep uP).at lP u27
        have W1 := (W26'.keep uP).at lP u27
        have W2 := (W26.keep uP).at lP u27
        clear lP u27 uP K26 S26 P26 W26 W26' l26
        obtain ⟨t, as, k, v1, v2, o, bs1, bs2, ht, pt, la, lk, R1, R2, hcs⟩ := Walked.two (fun p => (hlw2 p).symm) W1 W2
        have hsmw : ∀ p, p ∈ lw → Small p := fun p hp => hsm p ((hlw2 p).mp hp)
        -- the third question
        have B27 := base _ K27.u
        refine wpAny_execs_cons (wpAny_If (wpAny_isTrue_BoolOp (wpAny_allTrue_Or_cons (wpAny_isTrue_Compare1 (ldL l27 rfl (ldL l27 rfl (SeqAt.compareNe_shaped R1 R2 (plain_walk.shaped (by decide)) (plain_walk.shaped (by decide)) (by omega) (wpAny_truthy_bool ?_))))))))
        rw [plain_walk.same]
        simp only [Bool.not_true, Bool.false_eq_true, ↓reduceIte]
        refine wpAny_allTrue_Or_cons (wpAny_isTrue_Compare1 (callF1 (id := "sorted") (ldB B27 g_sorted b_sorted (by decide) ⟨rfl, callV2 (ldG B27 g_find ⟨rfl, ldL l27 rfl (ldL l27 rfl ⟨⟨_, _, B27.1 72 _ rfl, rfl⟩, wpAny_call (find_cycles B27 hh' (by omega) S27.src hsmw fun h28 tk28 cy1 O1 u2728 fcy1 SO1 hO1 => ?_)⟩)⟩)⟩)))
        dsimp only at u2728 fcy1 SO1 ⊢
        refine sorted_iset (.inl hh') SO1 fun h29 tk29 rc1 vs1 ns1 u2829 frc1 Lc1 Ic1 pc1 mc1 => ?_
        dsimp only at u2829 frc1 Lc1 ⊢
        have u2729 := u2728.trans u2829
        have l29 := l27.at u2729 (by simp)
        have K29 := K27.keep u2729
        have B29 := base _ K29.u
        refine callF1 (id := "sorted") (ldB B29 g_sorted b_sorted (by decide) ⟨rfl, callV2 (ldG B29 g_find ⟨rfl, callT1 (T := "list") (ldB B29 g_list b_list (by decide) ⟨rfl, ldL l29 rfl (call_list_pl K29.pl (by rw [List.length_map, K29.tups.length]; omega) fun h30 tk30 X2 u2930 fX2 pX2 => ?_)⟩)⟩)⟩)
        dsimp only at u2930 fX2 pX2 ⊢
        have l30 := l29.at u2930 (by simp)
        have K30 := K29.keep u2930
        have B30 := base _ K30.u
        refine ldL l30 rfl ⟨⟨_, _, B30.1 72 _ rfl, rfl⟩, wpAny_call (find_cycles B30 hh' (by omega) (.inl ⟨rs, pX2.list, K30.tups⟩) hsm fun h31 tk31 cy2 O2 u3031 fcy2 SO2 hO2 => ?_)⟩
        dsimp only at u3031 fcy2 SO2 ⊢
        refine sorted_iset (.inl hh') SO2 fun h32 tk32 rc2 vs2 ns2 u3132 frc2 Lc2 Ic2 pc2 mc2 => ?_
        dsimp only at u3132 frc2 Lc2 ⊢
        have u2932 := (u2930.trans u3031).trans u3132
        have e32 : ns1 = ns2 := sorted_ints pc1 pc2 fun x => by
          rw [mc1, mc2, hO1, hO2]
          exact ⟨path_congr hlw2, path_congr fun p => (hlw2 p).symm⟩
        obtain ⟨_, ra⟩ := reads_ints (IsList.at Lc1 u2932 (by simp)) Ic1
        obtain ⟨_, rb⟩ := reads_ints Lc2 Ic2
        rw [e32] at ra
        refine SeqAt.compareNe_shaped ra rb ((plain_ints (k := 0) ns2).shaped (by decide)) ((plain_ints (k := 0) ns2).shaped (by decide)) (by omega) (wpAny_truthy_bool ?_)
        rw [(plain_ints (k := 0) ns2).same]
        simp only [Bool.not_true, Bool.false_eq_true, ↓reduceIte]
        refine wpAny_allTrue_Or_nil ?_
        simp only [Bool.false_eq_true, ↓reduceIte]
        refine wpAny_execs_nil ?_
        dsimp only
        have u2732 := u2729.trans u2932
        have K32 := K27.keep u2732
        have S32 := S27.keep u2732
        have P32 := P27.keep u2732
        have l32 := l27.at u2732 (by simp)
        have ht32 : h32.IsTuple r1 #[.ref t, v1, v2] := by obtain ⟨o, ho, r⟩ := ht; exact ⟨o, u2732.at ho (by simp), r⟩
        have pt32 := pt.at u2732 (by simp)
        have la32 := la.at u2732 (by simp)
        have hcs32 : (o = none ∧ todoAt ps T0 k = [] ∧ v1 = .none ∧ v2 = .none) ∨ (v1 ≠ .none ∧ ∃ qs' rd cs, v2 = .ref rd ∧ (∀ p, p ∈ qs' ↔ p ∈ ps) ∧ (qs'.map code).Pairwise (· < ·) ∧ Reads h32 (.ref rd) (pairsD qs') cs) := by
          rcases hcs with q | ⟨ns', qs', rc, rd, cs, _, _, e1, e2, _, _, s1, m1, rr⟩
          · exact .inl q
          · exact .inr ⟨by rw [e1]; exact fun q => (nomatch q), qs', rd, cs, e2, m1, s1, PyProof.Rows.Reads.keeps (fun b o e => u2732 b o (by simp) e) rr⟩
        clear ra rb e32 Lc1 Ic1 Lc2 Ic2 pc1 pc2 mc1 mc2 hO1 hO2 SO1 SO2 fcy1 fcy2 frc1 frc2 u3031 u3132 u2930 u2932 pX2 fX2 l30 K30 B30 K29 B29 l29 u2729 u2728 u2829 B27 K27 S27 P27 l27 W1 W2 R1 R2 hcs ht pt la u2732
        -- the fourth question
        have B32 := base _ K32.u
        have lkw : Lay lw T0 k := lk.congr fun p => (hlw2 p).symm
        refine wpAny_execs_cons (wpAny_mono (Q := fun fl s' => fl = .next ∧ ∃ h' tk' gens', s' = { s with heap := h', toks := tk', gens := gens' } ∧ AllBare gens' ∧ Upto [] h32 h') ?_ (fun fl s' q => ?_) fun _ _ e => e)
        · refine wpAny_If (wpAny_isTrue_BoolOp (wpAny_allTrue_And_cons (wpAny_isTrue_Compare1 (sub_tuple (k := 1) (by omega) (ldL l32 rfl ⟨r1, _, v1, rfl, ht32, rfl, fun tk => Constant_none (is_none (wpAny_truthy_bool ?_))⟩)))))
          have bare : ∀ g : Array GenState, g = (((s.gens.push .finished).push .finished).push .finished).push .finished ∨ g = (s.gens.push .finished).push .finished → AllBare g := by
            rintro g (rfl | rfl) <;> rw [hg] <;> exact PySem.W.X.allBare_of _ rfl
          rcases hcs32 with ⟨_, ek, rfl, _⟩ | ⟨hv1, _⟩
          · rw [show (Value.none == Value.none) = true from rfl]
            simp only [↓reduceIte]
            have ekw : todoAt lw T0 k = [] := by rw [todoAt_congr hlw2]; exact ek
            have hfl : (flatK lw T0 k).length ≤ 6 := by have := flat_len lw T0 k; omega
            refine wpAny_allTrue_And_cons (wpAny_isTrue_Compare1 (callT1 (T := "list") (ldB B32 g_list b_list (by decide) ⟨rfl, callV3 (ldG B32 g_sort ⟨rfl, ldL l32 rfl (ldL l32 rfl (wpAny_Constant_bool ⟨⟨_, _, B32.1 65 _ rfl, rfl⟩, wpAny_call (sort_call (K := k) B32 (by omega) S32.src K32.il hsmw (fun l hn hm => hps12 l hn fun p hp => (hlw2 p).mp (hm p hp)) hsix hlen lkw ekw fun h33 tk33 g gs u3233 fg hgg hGo => ?_)⟩))⟩)⟩)))
            dsimp only at u3233 fg hgg hGo ⊢
            refine call_list_sort (hc := h32) (g0 := (s.gens.push .finished).push .finished) hh' (by omega) B32 (by omega) rfl hgg u3233 (fun s'' S0 u f e hg' => hGo A'.in1.in1.in1 _ s'' S0 hh' (by show A'.depth + 20 < _; omega) (by show A'.units + 1 + 1 + 1 + 120 < _; omega) (hfr' _ hA) (frames1 l32 _ kfun rfl) u f e hg') fun h34 tk34 S vs34 u34 fS Ls Is => ?_
            dsimp only
            have l34 := l32.at u34 (by simp)
            have ht34 : h34.IsTuple r1 #[.ref t, Value.none, v2] := by obtain ⟨o, ho, r⟩ := ht32; exact ⟨o, u34.at ho (by simp), r⟩
            have pt34 := pt32.at u34 (by simp)
            have la34 := la32.at u34 (by simp)
            refine listComp_eval (listComp_gen (cl := []) (by rfl) (by decide) rfl (by decide) (sub_tuple (k := 0) (by omega) (ldL l34 rfl ⟨r1, _, .ref t, rfl, ht34, rfl, fun tk => wpAny_pyIter_list pt34.list fun h36 tk36 acc4 C4 U36 fa fC ne pa lc => ?_⟩)))
            dsimp only at U36 fa fC ⊢
            have fI : h34.get? h34.objs.size = none := get_none_size
            have neI : t ≠ h34.objs.size := by obtain ⟨o, ho, _⟩ := pt34.get; exact ne_size ho
            generalize hIt : h34.push _ = h34i at U36 fa fC
            have uI : Upto [] h34 h34i := by rw [← hIt]; exact Upto.push _
            have hI6 : h34i.IsListIter h34.objs.size t 0 := by rw [← hIt]; exact ⟨_, Heap.get?_push_size _ rfl, rfl, rfl⟩
            generalize h34.objs.size = I at fI neI hI6 ⊢
            have W := Walks.list (prog := prog) (w := w) hh' I t neI (List.map Value.ref as).toArray
            have u3436 : Upto [] h34 h36 := uI.trans U36
            have fa6 : h34.get? acc4 = none := none_of uI fa
            have fC6 : h34.get? C4 = none := none_of uI fC
            have hI36 : h36.IsListIter I t 0 := by obtain ⟨o, ho, r⟩ := hI6; exact ⟨o, U36.at ho (by simp), r⟩
            have haI : acc4 ≠ I := by obtain ⟨o, ho, _⟩ := hI6; exact (ne_of_none ho fa).symm
            have hCI : C4 ≠ I := by obtain ⟨o, ho, _⟩ := hI6; exact (ne_of_none ho fC).symm
            have hat : acc4 ≠ t := by obtain ⟨o, ho, _⟩ := pt34.get; exact (ne_of_none ho fa6).symm
            have hCt : C4 ≠ t := by obtain ⟨o, ho, _⟩ := pt34.get; exact (ne_of_none ho fC6).symm
            have la36 := la34.at u3436 (by simp)
            have pt36 := pt34.at u3436 (by simp)
            have hno : ∀ b, b ∈ [acc4, C4, I] → h34.get? b = none := fun b hb => by
              simp only [List.mem_cons, List.not_mem_nil, or_false] at hb
              rcases hb with rfl | rfl | rfl
              · exact fa6
              · exact fC6
              · exact fI
            have hflat : flatK lw T0 k = (layersTo ps T0 k).flatten := by unfold flatK; rw [layersTo_congr hlw2]
            rw [hflat] at Is hfl
            generalize layersTo ps T0 k = LL at la34 la36 Is hfl
            have hsz : (List.map Value.ref as).toArray.size = LL.length := by rw [List.size_toArray, List.length_map, la36.length]
            refine comp_start_w (IsComp.list _ _ _ _) rfl W (i := 0) ⟨hI36, pt36.list⟩ ?_
            refine comp_loop_mid (IsComp.list _ _ _ _) rfl rfl (fun x => rfl) W (J := fun i h => Upto [acc4, C4, I] h36 h ∧ Loc h C4 [] ∧ ∃ ws, PL h acc4 ws ∧ IntsAre ws ((LL.take i).flatten)) ⟨hI36, pt36.list⟩ ⟨Upto.refl _ _, lc, [], pa, .nil⟩ ?_ ?_ ?_
            · rintro i h h' ⟨u, lo, ws, p, iw⟩ v
              exact ⟨u.trans (v.mono (by simp)), lo.at v (by simpa using hCI), ws, p.at v (by simpa using haI), iw⟩
            · rintro i v h4 tk4 hi4 hv hst ⟨u4, l4, ws, p4, iw⟩
              obtain ⟨ai, hai, rfl⟩ : ∃ r, as[i]? = some r ∧ v = .ref r := by
                simp only [List.getElem?_toArray, List.getElem?_map, Option.map_eq_some_iff] at hv
                obtain ⟨r, h1, h2⟩ := hv
                exact ⟨r, h1, h2.symm⟩
              obtain ⟨li, hli, ILi⟩ := la36.get hai
              have hai0 : ai ∉ [acc4, C4, I] := fun q => by
                obtain ⟨_, _, IL0⟩ := la34.get hai
                obtain ⟨o, ho, _⟩ := IL0.get
                rw [hno ai q] at ho; cases ho
              have haiC : ai ≠ C4 := fun q => hai0 (by simp [q])
              have haia : ai ≠ acc4 := fun q => hai0 (by simp [q])
              refine letOwn_name (wpAny_assign_Name (stL l4 fun h5 l5 sb5 => ?_))
              have u45 : Upto [C4] h4 h5 := Upto.same sb5 (.head _)
              replace l5 : Loc h5 C4 _ := l5
              obtain ⟨vi, pi, ii⟩ := (ILi.at u4 hai0).at u45 (by simpa using haiC)
              have p5 := p4.at u45 (by simpa using ne)
              refine ldL l5 rfl (wpAny_pyIter_list pi.list ?_)
              have fI1 : h5.get? h5.objs.size = none := get_none_size
              have ne1 : ai ≠ h5.objs.size := by obtain ⟨o, ho, _⟩ := pi.get; exact ne_size ho
              dsimp only
              generalize hIt1 : h5.push _ = h6
              have u56 : Upto [] h5 h6 := by rw [← hIt1]; exact Upto.push _
              have hI1 : h6.IsListIter h5.objs.size ai 0 := by rw [← hIt1]; exact ⟨_, Heap.get?_push_size _ rfl, rfl, rfl⟩
              generalize h5.objs.size = I1 at fI1 ne1 hI1 ⊢
              have W1 := Walks.list (prog := prog) (w := w) hh' I1 ai ne1 vi.toArray
              have hC1 : C4 ≠ I1 := by obtain ⟨o, _, _, ho, _⟩ := l5.get; exact ne_of_none ho fI1
              have ha1 : acc4 ≠ I1 := by obtain ⟨o, ho, _⟩ := p5.get; exact ne_of_none ho fI1
              have hvi : vi.length = li.length := ii.length
              have htf := take_flat hli
              have hbound : (LL.take i).flatten.length + li.length ≤ 6 := by
                have := take_flat_le LL (i + 1)
                rw [htf, List.length_append] at this
                omega
              refine wpAny_runOwn ?_
              refine comp_start_w (IsComp.list _ _ _ _) rfl W1 (i := 0) ⟨hI1, (pi.at u56 (by simp)).list⟩ ?_
              refine comp_loop (IsComp.list _ _ _ _) W1 (J := fun kk h => Upto [C4, acc4] h5 h ∧ Loc h C4 [(Str.ofString "layer", .ref ai)] ∧ ∃ ws', PL h acc4 ws' ∧ IntsAre ws' ((LL.take i).flatten ++ li.take kk)) ⟨hI1, (pi.at u56 (by simp)).list⟩ ⟨u56.mono (by simp), (l5.at u56 (by simp)).pick ⟨rfl, trivial⟩, ws, p5.at u56 (by simp), by simpa using iw⟩ ?_ (fun Q E s hx => comp_turn_last (IsComp.list _ _ _ _) rfl rfl hx) ?_ ?_
              · rintro kk h h' ⟨u, lo, ws', p, iw'⟩ v
                exact ⟨u.write v fun b hb => .inl (by rw [List.mem_singleton.mp hb]; exact fI1), lo.at v (by simpa using hC1), ws', p.at v (by simpa using ha1), iw'⟩
              · rintro kk v h7 tk7 hk7 hv7 hst7 ⟨u7, l7, ws', p7, iw'⟩
                have hkl : kk < li.length := by rw [List.size_toArray, hvi] at hk7; exact hk7
                obtain ⟨tx, htx⟩ := ints_get ii (List.getElem?_eq_getElem hkl)
                have hv8 : v = .int li[kk] tx := by
                  have : vi.toArray[kk]? = some v := hv7
                  rw [List.getElem?_toArray, htx] at this
                  exact (Option.some.inj this).symm
                subst hv8
                refine letOwn_name (wpAny_assign_Name (stL l7 fun h8 l8 sb8 => wpAny_pure ?_))
                have u78 : Upto [C4] h7 h8 := Upto.same sb8 (.head _)
                replace l8 : Loc h8 C4 _ := l8
                simp only [↓reduceIte]
                refine wpAny_bind (ldL l8 rfl ?_)
                have p8 := p7.at u78 (by simpa using ne)
                refine wpAny_bind (call_append_pl p8 (by rw [iw'.length, List.length_append, List.length_take]; omega) fun h9 p9 sb9 => wpAny_pure ⟨h9, _, rfl, ⟨(u7.write u78 fun b hb => .inr (by rw [List.mem_singleton.mp hb]; simp)).write (Upto.same sb9 (.head [])) fun b hb => .inr (by rw [List.mem_singleton.mp hb]; simp), (l8.at (Upto.same sb9 (.head [])) (by simpa using ne.symm)).pick ⟨rfl, trivial⟩, _, p9, ?_⟩, fun b hb o e => ?_⟩)
                · rw [List.take_add_one, List.getElem?_eq_getElem hkl, ← List.append_assoc]
                  exact ints_snoc iw'
                · have hbC : b ≠ C4 := by
                    rcases List.mem_cons.mp hb with rfl | hb
                    · exact hC1.symm
                    · rw [List.mem_singleton.mp hb]; exact haiC
                  have hba : b ≠ acc4 := by
                    rcases List.mem_cons.mp hb with rfl | hb
                    · exact ha1.symm
                    · rw [List.mem_singleton.mp hb]; exact haia
                  exact (Upto.same sb9 (.head [])).at (u78.at e (by simpa using hbC)) (by simpa using hba)
              · rintro h' tk' ⟨u, lo, ws', p, iw'⟩
                rw [List.size_toArray, hvi, List.take_length, ← htf] at iw'
                refine ⟨h', tk', rfl, ⟨fun b o hb e => ?_, lo.pick trivial, ws', p, iw'⟩, fun b hb o e => ?_⟩
                · simp only [List.mem_cons, List.not_mem_nil, or_false, not_or] at hb
                  exact u.at (u45.at (u4.at e (by simp [hb])) (by simpa using hb.2.1)) (by simp [hb])
                · have hbC : b ≠ C4 := by
                    rcases List.mem_cons.mp hb with rfl | hb
                    · exact hCI.symm
                    · rw [List.mem_singleton.mp hb]; exact hCt.symm
                  have hba : b ≠ acc4 := by
                    rcases List.mem_cons.mp hb with rfl | hb
                    · exact haI.symm
                    · rw [List.mem_singleton.mp hb]; exact hat.symm
                  exact u.at (u45.at e (by simpa using hbC)) (by simp [hbC, hba])
            · rintro h' tk' ⟨u, lo, ws, p, iw⟩
              rw [hsz, List.take_length] at iw
              refine compPost_cell lo fun h38 u38 => ?_
              dsimp only at u38 ⊢
              have u3438 : Upto [] h34 h38 := fun b o hb e => u38.at (u.at (u3436.at e hb) (fun q => by rw [hno b q] at e; cases e)) (by simpa using ne_of_none e fC6)
              obtain ⟨_, ra⟩ := reads_ints (IsList.at Ls u3438 (by simp)) Is
              obtain ⟨_, rb⟩ := reads_ints (p.at u38 (by simpa using ne)).list iw
              refine SeqAt.compareNe_shaped ra rb ((plain_ints (k := 0) _).shaped (by decide)) ((plain_ints (k := 0) _).shaped (by decide)) (by omega) (wpAny_truthy_bool ?_)
              rw [(plain_ints (k := 0) _).same]
              simp only [Bool.not_true, Bool.false_eq_true, ↓reduceIte]
              exact wpAny_execs_nil ⟨rfl, h38, _, _, rfl, bare _ (.inl rfl), u34.trans u3438⟩
          · rw [show (v1 == Value.none) = false by simpa using hv1]
            simp only [Bool.false_eq_true, ↓reduceIte]
            exact wpAny_execs_nil ⟨rfl, _, _, _, rfl, bare _ (.inr rfl), Upto.refl _ _⟩
        · obtain ⟨rfl, h40, tk40, gens40, rfl, hb40, u40⟩ := q
          dsimp only
          have l40 := l32.at u40 (by simp)
          have K40 := K32.keep u40
          have ht40 : h40.IsTuple r1 #[.ref t, v1, v2] := by obtain ⟨o, ho, r⟩ := ht32; exact ⟨o, u40.at ho (by simp), r⟩
          have fin : ∀ tk, R (.ok (.ret (.bool true))) { s with heap := h40, toks := tk, gens := gens40 } := fun tk => h h40 tk gens40 (old _ K40.u) hb40
          refine wpAny_execs_cons (wpAny_Return_some (boolOr2 (wpAny_Compare1 (sub_tuple (k := 2) (by omega) (ldL l40 rfl ⟨r1, _, v2, rfl, ht40, rfl, fun tk => Constant_none (is_none (wpAny_truthy_bool ?_))⟩)))))
          rcases hcs32 with ⟨_, _, _, rfl⟩ | ⟨_, qs', rd, cs, rfl, m1, s1, rr⟩
          · rw [show (Value.none == Value.none) = true from rfl]
            simp only [↓reduceIte]
            exact fin _
          · rw [show (Value.ref rd == Value.none) = false from rfl]
            simp only [Bool.false_eq_true, ↓reduceIte]
            refine wpAny_Compare1 (sub_tuple (k := 2) (by omega) (ldL l40 rfl ⟨r1, _, .ref rd, rfl, ht40, rfl, fun tk => ldL l40 rfl ?_⟩))
            obtain ⟨_, rb⟩ := (P32.keep u40).reads
            have e40 : qs' = qs := sorted_unique s1 (let ⟨_, _, _, p⟩ := P32; p) fun p => (m1 p).trans (mp p).symm
            rw [e40] at rr
            refine SeqAt.compareEq_shaped (PyProof.Rows.Reads.keeps (fun b o e => u40 b o (by simp) e) rr) rb ((plain_pairs (k := 0) qs).shaped (by decide)) ((plain_pairs (k := 0) qs).shaped (by decide)) (by omega) ?_
            rw [(plain_pairs (k := 0) qs).same]
            exact fin _
end
end Mine
end

open PySem PySem.W PySem.Calls PyProof.Rows
set_option Elab.async false
set_option maxRecDepth 100000
namespace Mine
theorem g_law {w : World} : nsIn (KK w) mainGlobals (Str.ofString "law") = some (some (.ref 103)) := by kernel_rfl
end Mine
open Mine
set_option maxHeartbeats 8000000 in
theorem PySem.Challenge.cw_ep5038_01_holds : PySem.Challenge.rw_ep5038_01.Holds := by
  refine Mine.hd ?_
  intro w s₀ s₁ mg mb G Y fa o pm cd doc dV kV ho hd' hcd hD hmg hg args vals as hpre hlay hrd hwl hlo
  have KX := kIn_of Y
  refine Ground.open G ?_
  intro T B D TE TW
  have hfa : fa = 103 := by
    have h1 := mg_of KX T.g g_law
    have h2 : mg (Str.ofString "law") = some (.ref fa) := hmg
    rw [h1] at h2
    injection h2 with h2
    injection h2 with h2
    exact h2.symm
  subst hfa
  have Bs : Base (KK w) s₁.heap := ⟨KX, _, _, _, _, topRead_of T⟩
  clear ho hd' hcd hD hmg T B D TE TW
  wrow_args hpre hlay hrd hwl hlo
  rename_i hL1 _ _ _ _ _ _ hL2 _ _ _ hI _ hc1 _
  refine wpAny_call (law_call Bs rfl (by decide) (by decide) rfl hg hL2 hI (by omega) fun h' tk gens u hb => ?_)
  exact ⟨.inl ⟨_, _, [], rfl, fun _ => rfl, ReadsW.bool true, by wrow_post, fun _ => ⟨List.nodup_nil, fun _ hm => nomatch hm⟩⟩, .of_keep fun b o e => u b o (by simp) e, rfl, hb⟩

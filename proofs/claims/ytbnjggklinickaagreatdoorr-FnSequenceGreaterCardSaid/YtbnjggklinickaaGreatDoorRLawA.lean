import Derived.Test.YtbnjggklinickaaGreatDoorRAlone
namespace Go.Proofs.YtbnjggklinickaaGreatDoorR
open Go Go.RowKit

/-- What the walk of the law wants of a number: its bytes, and the push that makes them. -/
structure Pushed (n : Int) (pre bs : List Int) : Prop where
  num : Num bs n
  push : Pushes pre bs
  len : 0 < pre.length ∧ pre.length ≤ 4
  rng : ∀ m ∈ bs, 0 ≤ m ∧ m ≤ 255
  rng' : ∀ m ∈ pre, 0 ≤ m ∧ m ≤ 255
  bytes : ∀ w, Calls Tryz.prog 5 #[.int .i64 n] w (Bytes bs w)
  made : ∀ (M : Nat → Prop) (w : World) (x : Value), Elem M w x bs → (∀ k, M k → k < w.heap.size) → Calls Tryz.prog 4 #[x] w (Bytes pre w)

theorem pushed_any (n : Int) (hn : 0 ≤ n ∧ n ≤ 65535 ∨ 4194304 ≤ n ∧ n ≤ 4259839) : ∃ pre bs, Pushed n pre bs := by
  by_cases h0 : n = 0
  · subst h0
    refine ⟨[0], [], .zero, .zero, by decide, by simp, by simp, fun w => (number_zero w).mono ?_, fun M w x hx hM => ?_⟩
    · rintro e w' ⟨rfl, rfl⟩
      exact ⟨_, rfl, Below.refl _ _, Own.nil _ _⟩
    · obtain ⟨p, c, rfl, _⟩ := hx
      exact ptok_nil _ _ _
  by_cases h1 : n ≤ 16
  · have hp : 1 ≤ n := by omega
    obtain ⟨k, rfl⟩ : ∃ k : Nat, n = k := ⟨n.toNat, by omega⟩
    refine ⟨[80 + (k : Int)], [(k : Int)], .one _ (by omega), .small k (by omega) (by omega), by simp, by simp; omega, by simp; omega, fun w => number_10 _ hp (by omega) w, fun M w x hx _ => ptok_small hp h1 hx⟩
  by_cases h2 : n ≤ 127
  · refine ⟨[1, n], [n], .one _ (by omega), .one _, by simp, by simp; omega, by simp; omega, fun w => number_10 _ (by omega) h2 w, fun M w x hx hM => ptok_one (by omega) h2 hx hM⟩
  by_cases h3 : n ≤ 255
  · have e : n = n + 256 * 0 := by omega
    refine ⟨[2, n, 0], [n, 0], ?_, .two _ _, by simp, by simp; omega, by simp; omega, fun w => number_11 _ (by omega) h3 w, fun M w x hx hM => ptok_two hx hM⟩
    have := Num.two n 0 (by omega) (by omega)
    rwa [← e] at this
  by_cases h4 : n ≤ 32767
  · have e : n % 256 + 256 * (n / 256) = n := by omega
    refine ⟨[2, n % 256, n / 256], [n % 256, n / 256], ?_, .two _ _, by simp, by simp; omega, by simp; omega, fun w => number_20 _ (by omega) h4 w, fun M w x hx hM => ptok_two hx hM⟩
    have := Num.two (n % 256) (n / 256) (by omega) (by omega)
    rwa [e] at this
  by_cases h5 : n ≤ 65535
  · have e : n % 256 + 256 * (n / 256) + 65536 * 0 = n := by omega
    refine ⟨[3, n % 256, n / 256, 0], [n % 256, n / 256, 0], ?_, .three _ _ _, by simp, by simp; omega, by simp; omega, fun w => number_21 _ (by omega) h5 w, fun M w x hx hM => ptok_three hx hM⟩
    have := Num.three (n % 256) (n / 256) 0 (by omega) (by omega) (by omega)
    rwa [e] at this
  · have e : n % 256 + 256 * (n / 256 % 256) + 65536 * (n / 256 / 256) = n := by omega
    refine ⟨[3, n % 256, n / 256 % 256, n / 256 / 256], [n % 256, n / 256 % 256, n / 256 / 256], ?_, .three _ _ _, by simp, by simp; omega, by simp; omega, fun w => number_30 _ (by omega) (by omega) w, fun M w x hx hM => ptok_three hx hM⟩
    have := Num.three (n % 256) (n / 256 % 256) (n / 256 / 256) (by omega) (by omega) (by omega)
    rwa [e] at this
#print axioms pushed_any

/-- Run of such a script: let just if the sequence meets the lock, and the version asks. -/
theorem run_seq {M : Nat → Prop} {w : World} {p : Option Addr} {k : Nat} {pre bs : List Int} {n : Int} (hP : Pushed n pre bs) (hx : Elem M w (.slice p (pre ++ [178, 117, 81]).length k) (pre ++ [178, 117, 81])) (hM : ∀ k, M k → k < w.heap.size)
    {gi gk go gok : Nat} {ver lock sq amt : Int} (hin : w.heap[gi]? = some (.cells (in0 sq).toArray 40 (0, 0))) (hout : w.heap[go]? = some (.cells #[.int .i64 1, .slice none 0 0] 48 (0, 0)))
    (a b : Int) (ha : 0 ≤ a ∧ a < 65536) (hb : 0 ≤ b ∧ b < 65536) (hk : n = a ∧ sq = b ∨ n = 4194304 + a ∧ sq = 4194304 + b) (c : Int) (hc : c = if a ≤ b ∧ 2 ≤ ver % 4294967296 then 0 else 58) :
    Calls Tryz.prog 7 #[.agg #[.slice p (pre ++ [178, 117, 81]).length k, .int .i64 amt, .int .i32 ver, .slice (some ⟨gi, 0, none⟩) 1 gk, .slice (some ⟨go, 0, none⟩) 1 gok, .int .u32 lock, .int .i64 0, .int .u32 16]] w (RunPost c w) := by
  have hl : 0 < (pre ++ [178, 117, 81]).length ∧ (pre ++ [178, 117, 81]).length ≤ 10000 := by have := hP.len; simp; omega
  have hbl : bs.length ≤ 100000 := by cases hP.push <;> simp
  by_cases h : a ≤ b ∧ 2 ≤ ver % 4294967296
  · rw [if_pos h] at hc
    subst hc
    exact run_yes hx hM (script_all hP.push) hl hin hout noFlags_16 (fun K w1 hE hO => goes_yes hE hP.push hP.len.2 hP.rng hP.num hO h.2 a b ha hb h.1 hk)
  · rw [if_neg h] at hc
    subst hc
    exact run_no hx hM (script_all hP.push) hl hbl hin hout noFlags_16 (fun K w1 hE hO => goes_no hE hP.push hP.len.2 hP.rng hP.num hO a b ha hb (by omega) hk)
#print axioms run_seq
theorem run_seq_at {M : Nat → Prop} {w : World} {p : Option Addr} {k m : Nat} {pre bs ls : List Int} {n : Int} (hP : Pushed n pre bs) (hls : ls = pre ++ [178, 117, 81]) (hm : ls.length = m) (hx : Elem M w (.slice p m k) ls) (hM : ∀ k, M k → k < w.heap.size)
    {gi gk go gok : Nat} {ver lock sq amt : Int} (hin : w.heap[gi]? = some (.cells (in0 sq).toArray 40 (0, 0))) (hout : w.heap[go]? = some (.cells #[.int .i64 1, .slice none 0 0] 48 (0, 0)))
    (a b : Int) (ha : 0 ≤ a ∧ a < 65536) (hb : 0 ≤ b ∧ b < 65536) (hk : n = a ∧ sq = b ∨ n = 4194304 + a ∧ sq = 4194304 + b) (c : Int) (hc : c = if a ≤ b ∧ 2 ≤ ver % 4294967296 then 0 else 58) :
    Calls Tryz.prog 7 #[.agg #[.slice p m k, .int .i64 amt, .int .i32 ver, .slice (some ⟨gi, 0, none⟩) 1 gk, .slice (some ⟨go, 0, none⟩) 1 gok, .int .u32 lock, .int .i64 0, .int .u32 16]] w (RunPost c w) := by
  subst hls
  subst hm
  exact run_seq hP hx hM hin hout a b ha hb hk c hc
#print axioms run_seq_at

theorem in0_set (a v : Int) : (in0 a).toArray.setIfInBounds 35 (.int .u32 v) = (in0 v).toArray := by simp

theorem Elem.apart {M : Nat → Prop} {w : World} {p : Option Addr} {n c x : Nat} {bs : List Int} (h : Elem M w (.slice p n c) bs) (hx : ∀ g, p = some g → g.block ≠ x) : Elem (fun k => M k ∧ k ≠ x) w (.slice p n c) bs := by
  obtain ⟨p', c', e, h1, h2, h3, h4, h5⟩ := h
  refine ⟨p', c', e, h1, h2, h3, h4, fun h0 => ?_⟩
  obtain ⟨b, o, hp, hM, hc⟩ := h5 h0
  simp only [Value.slice.injEq] at e
  exact ⟨b, o, hp, ⟨hM, hx _ (e.1.trans hp)⟩, hc⟩
end Go.Proofs.YtbnjggklinickaaGreatDoorR
